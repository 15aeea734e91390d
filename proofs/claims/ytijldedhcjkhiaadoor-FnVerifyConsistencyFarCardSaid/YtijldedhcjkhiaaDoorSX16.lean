import Derived.Test.YtijldedhcjkhiaaDoorSX0
import Derived.Test.YtijldedhcjkhiaaDoorSX5
import Derived.Test.YtijldedhcjkhiaaDoorSX8
import Derived.Test.YtijldedhcjkhiaaDoorSX13
import Derived.Test.YtijldedhcjkhiaaDoorSX14
import Derived.Test.YtijldedhcjkhiaaDoorSX15
namespace Go.Proofs.YtijldedhcjkhiaaDoor.X
open Go.RowKit Go.Proofs.YtijldedhcjkhiaaDoorW.PrintWords Go.Proofs.YtijldedhcjkhiaaDoorW.PrintLast Go.Proofs.YtijldedhcjkhiaaDoorW.PrintMore
attribute [local go_sem] max2_int min2_int max_two min_two max_three min_three max_four min_four   -- for this text's walks alone
set_option linter.unusedVariables false
set_option linter.unusedSimpArgs false
set_option maxHeartbeats 8000000 in
set_option maxRecDepth 100000 in
theorem laws_FnVerifyConsistencyFar.calls (k : Nat) (a0_0 : Int) (a0_1 : Int) (a0_2 : Int) (a0_3 : Int) (a0_4 : Int) (a0_5 : Int) (a1 : Int) (a2 : Int) (A3 : Option Addr) (c3 : Nat) (l3 : List (List Int)) (A4 : Option Addr) (c4 : Nat) (l4 : List Int) (A5 : Option Addr) (c5 : Nat) (l5 : List Int) (r : Bool) (w : World) (hGT : GlobT w) (hr3 : Kd.C (Kd.slice 5 (Kd.int .u8)) w A3 l3.length l3) (hc3 : l3.length ≤ c3) (hr4 : Kd.C (Kd.int .u8) w A4 l4.length l4) (hc4 : l4.length ≤ c4) (hr5 : Kd.C (Kd.int .u8) w A5 l5.length l5) (hc5 : l5.length ≤ c5) (h : laws_FnVerifyConsistencyFar.f k a0_0 a0_1 a0_2 a0_3 a0_4 a0_5 a1 a2 l3 l4 l5 = some r) :
  Calls Tryd.prog 6 #[.agg #[.int .i64 a0_0, .int .i64 a0_1, .int .i64 a0_2, .int .u64 a0_3, .int .u64 a0_4, .int .u64 a0_5], .int .u64 a1, .int .u64 a2, .slice A3 l3.length c3, .slice A4 l4.length c4, .slice A5 l5.length c5] w fun e w' => e = .returned (.bool r) ∧ Below w.heap.size w w' := by
 have hu37 := Tryd.underlying37
 have HR3 := Aside0.mk hr3
 have HC3 := Aside0.mk hc3
 clear hr3 hc3
 have HR4 := Aside0.mk hr4
 have HC4 := Aside0.mk hc4
 clear hr4 hc4
 have HR5 := Aside0.mk hr5
 have HC5 := Aside0.mk hc5
 clear hr5 hc5
 have HB := Aside0.mk (Below.refl w.heap.size w)
 have H : ((laws_zzFits2.f k l3).bind fun t688 => (if t688 = true then (if (l4.length : Int) > 2147483647 then (laws_FnVerifyConsistencyFar.j0 k a1 a2 l3 l4 l5 true a0_0 a0_1 a0_2 a0_3 a0_4 a0_5) else (laws_FnVerifyConsistencyFar.j0 k a1 a2 l3 l4 l5 (decide ((l5.length : Int) > 2147483647)) a0_0 a0_1 a0_2 a0_3 a0_4 a0_5)) else (laws_FnVerifyConsistencyFar.j0 k a1 a2 l3 l4 l5 true a0_0 a0_1 a0_2 a0_3 a0_4 a0_5))) = some r := h
 clear h
 have HC7 := Aside0.mk H
 clear H
 go_enter Tryd.func6, Tryd.ntmps6
 go_upto_region 1 with (first | ((with_reducible refine gate_dst (N := 6) rfl ?_); (try (refine gate_guard (by rfl) ?_; dsimp only)); refine box_event ?hg (N := 6) ?hd (cs := #[.int .i64 a0_0, .int .i64 a0_1, .int .i64 a0_2, .int .u64 a0_3, .int .u64 a0_4, .int .u64 a0_5]) (t := 37) ?hr ?_; (case hd => rfl); (case hg => rfl); (case hr => first | (go_simp; done) | (go_simp; rfl)); intro gb687 hg w8 hbox hb; have n0_ := Aside0.mk (below_step (by repeat (first | (with_reducible first | exact HB.out | apply below_alloc | apply pw_below_drewN | apply below_drew1) | exact HB.out)) hb); have n1_ := Aside0.mk (hbox); have n2_ := Aside0.mk ((by rw [hg]; exact (below_size (by repeat (first | (with_reducible first | exact HB.out | apply below_alloc | apply pw_below_drewN | apply below_drew1) | exact HB.out))) : w.heap.size ≤ gb687)); have n3_ := Aside0.mk ((by rw [hg]; exact (below_size (by repeat (first | (with_reducible first | exact HB.out | apply below_alloc | apply pw_below_drewN | apply below_drew1) | exact HB.out))) : w.heap.size ≤ gb687)); clear HB; have HB := n0_; have BK687 := n1_; have GW687 := n2_; have GE687 := n3_; clear n0_ n1_ n2_ n3_; clear hb hbox hg))
 (try simp only [Act.put, sA_, sB_, sC_])
 go_cut [35] (fun v35 wc => ∃ (kq : Nat) (x35_6 : Bool), v35 = .bool x35_6 ∧ Aside0 (laws_FnVerifyConsistencyFar.j0 kq a1 a2 l3 l4 l5 x35_6 a0_0 a0_1 a0_2 a0_3 a0_4 a0_5 = some r) ∧ Aside0 (kq ≤ k) ∧ Aside0 (wc.heap[gb687]? = some (.cells #[.int .i64 a0_0, .int .i64 a0_1, .int .i64 a0_2, .int .u64 a0_3, .int .u64 a0_4, .int .u64 a0_5] 37 (0, 0))) ∧ Aside0 (Below w.heap.size w wc))
 case first =>
  have H := HC7.out
  clear HC7
  replace H := Option.bind_eq_some_iff.mp H
  obtain ⟨t688, A90, H⟩ := H
  replace H : (if t688 = true then (if (l4.length : Int) > 2147483647 then (laws_FnVerifyConsistencyFar.j0 k a1 a2 l3 l4 l5 true a0_0 a0_1 a0_2 a0_3 a0_4 a0_5) else (laws_FnVerifyConsistencyFar.j0 k a1 a2 l3 l4 l5 (decide ((l5.length : Int) > 2147483647)) a0_0 a0_1 a0_2 a0_3 a0_4 a0_5)) else (laws_FnVerifyConsistencyFar.j0 k a1 a2 l3 l4 l5 true a0_0 a0_1 a0_2 a0_3 a0_4 a0_5)) = some r := H
  have A9 := Aside0.mk A90
  clear A90
  by_cases c10 : t688 = true
  ·subst c10
   have H1 : (if (l4.length : Int) > 2147483647 then (laws_FnVerifyConsistencyFar.j0 k a1 a2 l3 l4 l5 true a0_0 a0_1 a0_2 a0_3 a0_4 a0_5) else (laws_FnVerifyConsistencyFar.j0 k a1 a2 l3 l4 l5 (decide ((l5.length : Int) > 2147483647)) a0_0 a0_1 a0_2 a0_3 a0_4 a0_5)) = some r := by rw [if_pos rfl] at H; exact H
   clear H
   have H := H1
   clear H1
   by_cases c11 : (l4.length : Int) > 2147483647
   ·rw [if_pos c11] at H
    have c11b0 : decide (2147483647 < (l4.length : Int)) = true := decide_eq_true c11
    have c11b1 : decide (2147483647 < l4.length) = true := decide_eq_true (by omega)
    clear c11
    (first | rw [c11b0] | (simp only [i64_w, i32_w]; rw [c11b0]) | skip)
    have H' := Aside0.mk H
    clear H
    go_wp2_with (first | ((with_reducible refine gate_callee (f := 27) rfl ?_); refine goesL_ (some 24) rfl rfl Tryd.func27 (by kernel_rfl) rfl #[.slice A3 l3.length c3] rfl (by (try simp only [List.map_toArray, List.map_cons, List.map_nil]); first | done | rfl | (simp only [List.length_drop, List.length_take]; rfl)) ?_; (with_reducible refine (laws_zzFits2.calls k _ _ l3 true _ ?side1 ?side2 A9.out).mono ?_); (case side1 => repeat (first | exact (Kd.C_below HR3.out HB.out) | (with_reducible refine Kd.C_alloc ?_ _) | (with_reducible refine Kd.C_drewN ?_ _) | (with_reducible refine Kd.C_drew ?_))); (case side2 => exact HC3.out); rintro e w' ⟨rfl, ⟨nd, rfl⟩⟩; refine ⟨_, rfl, ?_⟩))
    go_meet
    case rel => exact ⟨_, (true), (by first | rfl | (simp; done) | (simp [*]; done)), H', ⟨by first | omega | exact Nat.le_refl _⟩, ⟨by (with_reducible repeat (first | refine blk_drewN ?_ _ | refine blk_drew ?_ | refine blk_alloc ?_ _)); exact BK687.out⟩, ⟨by repeat (first | (with_reducible first | exact HB.out | apply below_alloc | apply pw_below_drewN | apply below_drew1 | refine below_set ?_ GE687.out) | exact HB.out)⟩⟩
   rw [if_neg c11] at H
   have c11b0 : decide (2147483647 < (l4.length : Int)) = false := decide_eq_false c11
   have c11b1 : decide (2147483647 < l4.length) = false := decide_eq_false (by omega)
   clear c11
   (first | rw [c11b0] | (simp only [i64_w, i32_w]; rw [c11b0]) | skip)
   have H' := Aside0.mk H
   clear H
   go_wp2_with (first | ((with_reducible refine gate_callee (f := 27) rfl ?_); refine goesL_ (some 24) rfl rfl Tryd.func27 (by kernel_rfl) rfl #[.slice A3 l3.length c3] rfl (by (try simp only [List.map_toArray, List.map_cons, List.map_nil]); first | done | rfl | (simp only [List.length_drop, List.length_take]; rfl)) ?_; (with_reducible refine (laws_zzFits2.calls k _ _ l3 true _ ?side1 ?side2 A9.out).mono ?_); (case side1 => repeat (first | exact (Kd.C_below HR3.out HB.out) | (with_reducible refine Kd.C_alloc ?_ _) | (with_reducible refine Kd.C_drewN ?_ _) | (with_reducible refine Kd.C_drew ?_))); (case side2 => exact HC3.out); rintro e w' ⟨rfl, ⟨nd, rfl⟩⟩; refine ⟨_, rfl, ?_⟩))
   go_meet
   case rel => exact ⟨_, (decide ((l5.length : Int) > 2147483647)), (by first | rfl | (simp; done) | (simp [*]; done)), H', ⟨by first | omega | exact Nat.le_refl _⟩, ⟨by (with_reducible repeat (first | refine blk_drewN ?_ _ | refine blk_drew ?_ | refine blk_alloc ?_ _)); exact BK687.out⟩, ⟨by repeat (first | (with_reducible first | exact HB.out | apply below_alloc | apply pw_below_drewN | apply below_drew1 | refine below_set ?_ GE687.out) | exact HB.out)⟩⟩
  replace c10 := Bool.eq_false_iff.mpr c10
  subst c10
  have H1 : (laws_FnVerifyConsistencyFar.j0 k a1 a2 l3 l4 l5 true a0_0 a0_1 a0_2 a0_3 a0_4 a0_5) = some r := by rw [if_neg (show ¬ (false = true) by decide)] at H; exact H
  clear H
  have H := H1
  clear H1
  have H' := Aside0.mk H
  clear H
  go_wp2_with (first | ((with_reducible refine gate_callee (f := 27) rfl ?_); refine goesL_ (some 24) rfl rfl Tryd.func27 (by kernel_rfl) rfl #[.slice A3 l3.length c3] rfl (by (try simp only [List.map_toArray, List.map_cons, List.map_nil]); first | done | rfl | (simp only [List.length_drop, List.length_take]; rfl)) ?_; (with_reducible refine (laws_zzFits2.calls k _ _ l3 false _ ?side1 ?side2 A9.out).mono ?_); (case side1 => repeat (first | exact (Kd.C_below HR3.out HB.out) | (with_reducible refine Kd.C_alloc ?_ _) | (with_reducible refine Kd.C_drewN ?_ _) | (with_reducible refine Kd.C_drew ?_))); (case side2 => exact HC3.out); rintro e w' ⟨rfl, ⟨nd, rfl⟩⟩; refine ⟨_, rfl, ?_⟩))
  go_meet
  case rel => exact ⟨_, (true), (by first | rfl | (simp; done) | (simp [*]; done)), H', ⟨by first | omega | exact Nat.le_refl _⟩, ⟨by (with_reducible repeat (first | refine blk_drewN ?_ _ | refine blk_drew ?_ | refine blk_alloc ?_ _)); exact BK687.out⟩, ⟨by repeat (first | (with_reducible first | exact HB.out | apply below_alloc | apply pw_below_drewN | apply below_drew1 | refine below_set ?_ GE687.out) | exact HB.out)⟩⟩
 clear HC7
 try clear c1
 try clear c2
 try clear p2
 try clear c3
 try clear c4
 try clear c5
 try clear c6
 try clear c10
 try clear c11
 try clear c11b0
 try clear c11b1
 obtain ⟨kq, x35_6, rfl, HA, HJ6, BK687, HB⟩ := hcut
 obtain _ | kj6 := kq
 ·exact absurd HA.out (by simp [laws_FnVerifyConsistencyFar.j0])
 have H := HA.out
 clear HA
 simp only [laws_FnVerifyConsistencyFar.j0] at H
 have HC12 := Aside0.mk H
 clear H
 go_upto_if 35 with (fail)
 go_cut [] (fun wc => ∃ (kq : Nat), Aside0 (laws_FnVerifyConsistencyFar.j1 kq a1 a2 l3 l4 l5 a0_0 a0_1 a0_2 a0_3 a0_4 a0_5 = some r) ∧ Aside0 (kq ≤ kj6) ∧ Aside0 (wc.heap[gb687]? = some (.cells #[.int .i64 a0_0, .int .i64 a0_1, .int .i64 a0_2, .int .u64 a0_3, .int .u64 a0_4, .int .u64 a0_5] 37 (0, 0))) ∧ Aside0 (Below w.heap.size w wc))
 case first =>
  have H := HC12.out
  clear HC12
  by_cases c13 : x35_6 = true
  ·subst c13
   have H1 : (some true) = some r := by rw [if_pos rfl] at H; exact H
   clear H
   have H := H1
   clear H1
   obtain rfl := Option.some.inj H
   go_wp2
   go_ret
   exact ⟨by first | rfl | (simp [errW_none, errW_some] <;> rfl) | (simp [*, errW_none, errW_some] <;> rfl), by repeat (first | (with_reducible first | exact HB.out | apply below_alloc | apply pw_below_drewN | apply below_drew1 | refine below_set ?_ GE687.out) | exact HB.out)⟩
  replace c13 := Bool.eq_false_iff.mpr c13
  subst c13
  have H1 : (laws_FnVerifyConsistencyFar.j1 kj6 a1 a2 l3 l4 l5 a0_0 a0_1 a0_2 a0_3 a0_4 a0_5) = some r := by rw [if_neg (show ¬ (false = true) by decide)] at H; exact H
  clear H
  have H := H1
  clear H1
  have H' := Aside0.mk H
  clear H
  go_wp2
  go_meet
  case rel => exact ⟨_, H', ⟨by have := HJ6.out; first | omega | exact Nat.le_refl _⟩, ⟨by (with_reducible repeat (first | refine blk_drewN ?_ _ | refine blk_drew ?_ | refine blk_alloc ?_ _)); exact BK687.out⟩, ⟨by repeat (first | (with_reducible first | exact HB.out | apply below_alloc | apply pw_below_drewN | apply below_drew1 | refine below_set ?_ GE687.out) | exact HB.out)⟩⟩
 clear HC12
 try clear c1
 try clear c2
 try clear p2
 try clear c3
 try clear c4
 try clear c5
 try clear c6
 try clear c10
 try clear c11
 try clear c11b0
 try clear c11b1
 try clear c13
 try clear p2
 obtain ⟨kq, HA, HJ11, BK687, HB⟩ := hcut
 obtain _ | kj11 := kq
 ·exact absurd HA.out (by simp [laws_FnVerifyConsistencyFar.j1])
 have H := HA.out
 clear HA
 simp only [laws_FnVerifyConsistencyFar.j1] at H
 have HC14 := Aside0.mk H
 clear H
 go_upto_region 3 with (fail)
 go_cut [52] (fun v52 wc => ∃ (kq : Nat) (x52_13 : Bool), v52 = .bool x52_13 ∧ Aside0 (laws_FnVerifyConsistencyFar.j2 kq a1 a2 l3 l4 l5 x52_13 a0_0 a0_1 a0_2 a0_3 a0_4 a0_5 = some r) ∧ Aside0 (kq ≤ kj11) ∧ Aside0 (wc.heap[gb687]? = some (.cells #[.int .i64 a0_0, .int .i64 a0_1, .int .i64 a0_2, .int .u64 a0_3, .int .u64 a0_4, .int .u64 a0_5] 37 (0, 0))) ∧ Aside0 (Below w.heap.size w wc))
 case first =>
  have H := HC14.out
  clear HC14
  replace H := Option.bind_eq_some_iff.mp H
  obtain ⟨t689, A150, H⟩ := H
  replace H : (if t689 = true then (if (l4.length : Int) > 5000 then (laws_FnVerifyConsistencyFar.j2 kj11 a1 a2 l3 l4 l5 true a0_0 a0_1 a0_2 a0_3 a0_4 a0_5) else (if a1 = 0 then (laws_FnVerifyConsistencyFar.j2 kj11 a1 a2 l3 l4 l5 true a0_0 a0_1 a0_2 a0_3 a0_4 a0_5) else (laws_FnVerifyConsistencyFar.j2 kj11 a1 a2 l3 l4 l5 (decide (a1 ≥ a2)) a0_0 a0_1 a0_2 a0_3 a0_4 a0_5))) else (laws_FnVerifyConsistencyFar.j2 kj11 a1 a2 l3 l4 l5 true a0_0 a0_1 a0_2 a0_3 a0_4 a0_5)) = some r := H
  have A15 := Aside0.mk A150
  clear A150
  by_cases c16 : t689 = true
  ·subst c16
   have H1 : (if (l4.length : Int) > 5000 then (laws_FnVerifyConsistencyFar.j2 kj11 a1 a2 l3 l4 l5 true a0_0 a0_1 a0_2 a0_3 a0_4 a0_5) else (if a1 = 0 then (laws_FnVerifyConsistencyFar.j2 kj11 a1 a2 l3 l4 l5 true a0_0 a0_1 a0_2 a0_3 a0_4 a0_5) else (laws_FnVerifyConsistencyFar.j2 kj11 a1 a2 l3 l4 l5 (decide (a1 ≥ a2)) a0_0 a0_1 a0_2 a0_3 a0_4 a0_5))) = some r := by rw [if_pos rfl] at H; exact H
   clear H
   have H := H1
   clear H1
   by_cases c17 : (l4.length : Int) > 5000
   ·rw [if_pos c17] at H
    have c17b0 : decide (5000 < (l4.length : Int)) = true := decide_eq_true c17
    have c17b1 : decide (5000 < l4.length) = true := decide_eq_true (by omega)
    clear c17
    (first | rw [c17b0] | (simp only [i64_w, i32_w]; rw [c17b0]) | skip)
    have H' := Aside0.mk H
    clear H
    go_wp2_with (first | ((with_reducible refine gate_callee (f := 28) rfl ?_); refine goesL_ (some 37) rfl rfl Tryd.func28 (by kernel_rfl) rfl #[.slice A3 l3.length c3] rfl (by (try simp only [List.map_toArray, List.map_cons, List.map_nil]); first | done | rfl | (simp only [List.length_drop, List.length_take]; rfl)) ?_; (with_reducible refine (laws_logSmall.calls kj11 _ _ l3 true _ ?side1 ?side2 A15.out).mono ?_); (case side1 => repeat (first | exact (Kd.C_below HR3.out HB.out) | (with_reducible refine Kd.C_alloc ?_ _) | (with_reducible refine Kd.C_drewN ?_ _) | (with_reducible refine Kd.C_drew ?_))); (case side2 => exact HC3.out); rintro e w' ⟨rfl, ⟨nd, rfl⟩⟩; refine ⟨_, rfl, ?_⟩))
    go_meet
    case rel => exact ⟨_, (true), (by first | rfl | (simp; done) | (simp [*]; done)), H', ⟨by have := HJ6.out; have := HJ11.out; first | omega | exact Nat.le_refl _⟩, ⟨by (with_reducible repeat (first | refine blk_drewN ?_ _ | refine blk_drew ?_ | refine blk_alloc ?_ _)); exact BK687.out⟩, ⟨by repeat (first | (with_reducible first | exact HB.out | apply below_alloc | apply pw_below_drewN | apply below_drew1 | refine below_set ?_ GE687.out) | exact HB.out)⟩⟩
   rw [if_neg c17] at H
   have c17b0 : decide (5000 < (l4.length : Int)) = false := decide_eq_false c17
   have c17b1 : decide (5000 < l4.length) = false := decide_eq_false (by omega)
   clear c17
   (first | rw [c17b0] | (simp only [i64_w, i32_w]; rw [c17b0]) | skip)
   by_cases c18 : a1 = 0
   ·rw [if_pos c18] at H
    have c18b0 : (a1 == 0) = true := beq_iff_eq.mpr c18
    have c18b1 : (a1 != 0) = false := bne_eq_false_iff_eq.mpr c18
    clear c18
    have H' := Aside0.mk H
    clear H
    go_wp2_with (first | ((with_reducible refine gate_callee (f := 28) rfl ?_); refine goesL_ (some 37) rfl rfl Tryd.func28 (by kernel_rfl) rfl #[.slice A3 l3.length c3] rfl (by (try simp only [List.map_toArray, List.map_cons, List.map_nil]); first | done | rfl | (simp only [List.length_drop, List.length_take]; rfl)) ?_; (with_reducible refine (laws_logSmall.calls kj11 _ _ l3 true _ ?side1 ?side2 A15.out).mono ?_); (case side1 => repeat (first | exact (Kd.C_below HR3.out HB.out) | (with_reducible refine Kd.C_alloc ?_ _) | (with_reducible refine Kd.C_drewN ?_ _) | (with_reducible refine Kd.C_drew ?_))); (case side2 => exact HC3.out); rintro e w' ⟨rfl, ⟨nd, rfl⟩⟩; refine ⟨_, rfl, ?_⟩))
    go_meet
    case rel => exact ⟨_, (true), (by first | rfl | (simp; done) | (simp [*]; done)), H', ⟨by have := HJ6.out; have := HJ11.out; first | omega | exact Nat.le_refl _⟩, ⟨by (with_reducible repeat (first | refine blk_drewN ?_ _ | refine blk_drew ?_ | refine blk_alloc ?_ _)); exact BK687.out⟩, ⟨by repeat (first | (with_reducible first | exact HB.out | apply below_alloc | apply pw_below_drewN | apply below_drew1 | refine below_set ?_ GE687.out) | exact HB.out)⟩⟩
   rw [if_neg c18] at H
   have c18b0 : (a1 == 0) = false := beq_eq_false_iff_ne.mpr c18
   have c18b1 : (a1 != 0) = true := bne_iff_ne.mpr c18
   have H' := Aside0.mk H
   clear H
   go_wp2_with (first | ((with_reducible refine gate_callee (f := 28) rfl ?_); refine goesL_ (some 37) rfl rfl Tryd.func28 (by kernel_rfl) rfl #[.slice A3 l3.length c3] rfl (by (try simp only [List.map_toArray, List.map_cons, List.map_nil]); first | done | rfl | (simp only [List.length_drop, List.length_take]; rfl)) ?_; (with_reducible refine (laws_logSmall.calls kj11 _ _ l3 true _ ?side1 ?side2 A15.out).mono ?_); (case side1 => repeat (first | exact (Kd.C_below HR3.out HB.out) | (with_reducible refine Kd.C_alloc ?_ _) | (with_reducible refine Kd.C_drewN ?_ _) | (with_reducible refine Kd.C_drew ?_))); (case side2 => exact HC3.out); rintro e w' ⟨rfl, ⟨nd, rfl⟩⟩; refine ⟨_, rfl, ?_⟩))
   go_meet
   case rel => exact ⟨_, (decide (a1 ≥ a2)), (by first | rfl | (simp; done) | (simp [*]; done)), H', ⟨by have := HJ6.out; have := HJ11.out; first | omega | exact Nat.le_refl _⟩, ⟨by (with_reducible repeat (first | refine blk_drewN ?_ _ | refine blk_drew ?_ | refine blk_alloc ?_ _)); exact BK687.out⟩, ⟨by repeat (first | (with_reducible first | exact HB.out | apply below_alloc | apply pw_below_drewN | apply below_drew1 | refine below_set ?_ GE687.out) | exact HB.out)⟩⟩
  replace c16 := Bool.eq_false_iff.mpr c16
  subst c16
  have H1 : (laws_FnVerifyConsistencyFar.j2 kj11 a1 a2 l3 l4 l5 true a0_0 a0_1 a0_2 a0_3 a0_4 a0_5) = some r := by rw [if_neg (show ¬ (false = true) by decide)] at H; exact H
  clear H
  have H := H1
  clear H1
  have H' := Aside0.mk H
  clear H
  go_wp2_with (first | ((with_reducible refine gate_callee (f := 28) rfl ?_); refine goesL_ (some 37) rfl rfl Tryd.func28 (by kernel_rfl) rfl #[.slice A3 l3.length c3] rfl (by (try simp only [List.map_toArray, List.map_cons, List.map_nil]); first | done | rfl | (simp only [List.length_drop, List.length_take]; rfl)) ?_; (with_reducible refine (laws_logSmall.calls kj11 _ _ l3 false _ ?side1 ?side2 A15.out).mono ?_); (case side1 => repeat (first | exact (Kd.C_below HR3.out HB.out) | (with_reducible refine Kd.C_alloc ?_ _) | (with_reducible refine Kd.C_drewN ?_ _) | (with_reducible refine Kd.C_drew ?_))); (case side2 => exact HC3.out); rintro e w' ⟨rfl, ⟨nd, rfl⟩⟩; refine ⟨_, rfl, ?_⟩))
  go_meet
  case rel => exact ⟨_, (true), (by first | rfl | (simp; done) | (simp [*]; done)), H', ⟨by have := HJ6.out; have := HJ11.out; first | omega | exact Nat.le_refl _⟩, ⟨by (with_reducible repeat (first | refine blk_drewN ?_ _ | refine blk_drew ?_ | refine blk_alloc ?_ _)); exact BK687.out⟩, ⟨by repeat (first | (with_reducible first | exact HB.out | apply below_alloc | apply pw_below_drewN | apply below_drew1 | refine below_set ?_ GE687.out) | exact HB.out)⟩⟩
 clear HC14
 try clear c1
 try clear c2
 try clear p2
 try clear c3
 try clear c4
 try clear c5
 try clear c6
 try clear c10
 try clear c11
 try clear c11b0
 try clear c11b1
 try clear c13
 try clear c16
 try clear c17
 try clear c17b0
 try clear c17b1
 try clear c18
 try clear c18b0
 try clear c18b1
 try clear p2
 obtain ⟨kq, x52_13, rfl, HA, HJ13, BK687, HB⟩ := hcut
 obtain _ | kj13 := kq
 ·exact absurd HA.out (by simp [laws_FnVerifyConsistencyFar.j2])
 have H := HA.out
 clear HA
 simp only [laws_FnVerifyConsistencyFar.j2] at H
 have HC19 := Aside0.mk H
 clear H
 go_upto_if 52 with (fail)
 go_cut [] (fun wc => ∃ (kq : Nat), Aside0 (laws_FnVerifyConsistencyFar.j3 kq a1 a2 l3 l4 l5 a0_0 a0_1 a0_2 a0_3 a0_4 a0_5 = some r) ∧ Aside0 (kq ≤ kj13) ∧ Aside0 (wc.heap[gb687]? = some (.cells #[.int .i64 a0_0, .int .i64 a0_1, .int .i64 a0_2, .int .u64 a0_3, .int .u64 a0_4, .int .u64 a0_5] 37 (0, 0))) ∧ Aside0 (Below w.heap.size w wc))
 case first =>
  have H := HC19.out
  clear HC19
  by_cases c20 : x52_13 = true
  ·subst c20
   have H1 : (some true) = some r := by rw [if_pos rfl] at H; exact H
   clear H
   have H := H1
   clear H1
   obtain rfl := Option.some.inj H
   go_wp2
   go_ret
   exact ⟨by first | rfl | (simp [errW_none, errW_some] <;> rfl) | (simp [*, errW_none, errW_some] <;> rfl), by repeat (first | (with_reducible first | exact HB.out | apply below_alloc | apply pw_below_drewN | apply below_drew1 | refine below_set ?_ GE687.out) | exact HB.out)⟩
  replace c20 := Bool.eq_false_iff.mpr c20
  subst c20
  have H1 : (laws_FnVerifyConsistencyFar.j3 kj13 a1 a2 l3 l4 l5 a0_0 a0_1 a0_2 a0_3 a0_4 a0_5) = some r := by rw [if_neg (show ¬ (false = true) by decide)] at H; exact H
  clear H
  have H := H1
  clear H1
  have H' := Aside0.mk H
  clear H
  go_wp2
  go_meet
  case rel => exact ⟨_, H', ⟨by have := HJ6.out; have := HJ11.out; have := HJ13.out; first | omega | exact Nat.le_refl _⟩, ⟨by (with_reducible repeat (first | refine blk_drewN ?_ _ | refine blk_drew ?_ | refine blk_alloc ?_ _)); exact BK687.out⟩, ⟨by repeat (first | (with_reducible first | exact HB.out | apply below_alloc | apply pw_below_drewN | apply below_drew1 | refine below_set ?_ GE687.out) | exact HB.out)⟩⟩
 clear HC19
 try clear c1
 try clear c2
 try clear p2
 try clear c3
 try clear c4
 try clear c5
 try clear c6
 try clear c10
 try clear c11
 try clear c11b0
 try clear c11b1
 try clear c13
 try clear c16
 try clear c17
 try clear c17b0
 try clear c17b1
 try clear c18
 try clear c18b0
 try clear c18b1
 try clear c20
 try clear p2
 obtain ⟨kq, HA, HJ18, BK687, HB⟩ := hcut
 obtain _ | kj18 := kq
 ·exact absurd HA.out (by simp [laws_FnVerifyConsistencyFar.j3])
 have H := HA.out
 clear HA
 simp only [laws_FnVerifyConsistencyFar.j3] at H
 replace H := Option.bind_eq_some_iff.mp H
 obtain ⟨⟨t690, t691⟩, A210, H⟩ := H
 replace H : ((spec_ProofParts.f kj18 a1 a2).bind fun t694 => (if (l3.length : Int) = (t694.length : Int) then (laws_FnVerifyConsistencyFar.j4 kj18 a1 a2 l3 l4 l5 t690 a0_0 a0_1 a0_2 a0_3 a0_4 a0_5) else (some (t690 == 2)))) = some r := H
 have A21 := Aside0.mk A210
 clear A210
 replace H := Option.bind_eq_some_iff.mp H
 obtain ⟨t694, A220, H⟩ := H
 replace H : (if (l3.length : Int) = (t694.length : Int) then (laws_FnVerifyConsistencyFar.j4 kj18 a1 a2 l3 l4 l5 t690 a0_0 a0_1 a0_2 a0_3 a0_4 a0_5) else (some (t690 == 2))) = some r := H
 have A22 := Aside0.mk A220
 clear A220
 have HC23 := Aside0.mk H
 clear H
 have hcz24_0 : wc.cell? ⟨gb687, 0, none⟩ = some (.int .i64 a0_0) := (blk_cell BK687.out 0).trans rfl
 have hcz24_1 : wc.cell? ⟨gb687, 1, none⟩ = some (.int .i64 a0_1) := (blk_cell BK687.out 1).trans rfl
 have hcz24_2 : wc.cell? ⟨gb687, 2, none⟩ = some (.int .i64 a0_2) := (blk_cell BK687.out 2).trans rfl
 have hcz24_3 : wc.cell? ⟨gb687, 3, none⟩ = some (.int .u64 a0_3) := (blk_cell BK687.out 3).trans rfl
 have hcz24_4 : wc.cell? ⟨gb687, 4, none⟩ = some (.int .u64 a0_4) := (blk_cell BK687.out 4).trans rfl
 have hcz24_5 : wc.cell? ⟨gb687, 5, none⟩ = some (.int .u64 a0_5) := (blk_cell BK687.out 5).trans rfl
 have hfz24_0 := blk_frozen BK687.out 0
 have hfz24_1 := blk_frozen BK687.out 1
 have hfz24_2 := blk_frozen BK687.out 2
 have hfz24_3 := blk_frozen BK687.out 3
 have hfz24_4 := blk_frozen BK687.out 4
 have hfz24_5 := blk_frozen BK687.out 5
 go_upto_if 69 with (first | ((with_reducible refine gate_callee (f := 33) rfl ?_); refine goesL_ (some 60) rfl rfl Tryd.func33 (by kernel_rfl) rfl #[.agg #[.int .i64 a0_0, .int .i64 a0_1, .int .i64 a0_2, .int .u64 a0_3, .int .u64 a0_4, .int .u64 a0_5], .int .u64 a1, .int .u64 a2, .slice A3 l3.length c3, .slice A4 l4.length c4, .slice A5 l5.length c5] rfl (by (try simp only [List.map_toArray, List.map_cons, List.map_nil]); first | done | rfl | (simp only [List.length_drop, List.length_take]; rfl)) ?_; (with_reducible refine (impl_VerifyConsistency.calls kj18 a0_0 a0_1 a0_2 a0_3 a0_4 a0_5 a1 a2 _ _ l3 _ _ l4 _ _ l5 t690 t691 _ ?side7 ?side1 ?side2 ?side3 ?side4 ?side5 ?side6 A21.out).mono ?_); (case side1 => repeat (first | exact (Kd.C_below HR3.out HB.out) | (with_reducible refine Kd.C_alloc ?_ _) | (with_reducible refine Kd.C_drewN ?_ _) | (with_reducible refine Kd.C_drew ?_))); (case side2 => exact HC3.out); (case side3 => repeat (first | exact (Kd.C_below HR4.out HB.out) | (with_reducible refine Kd.C_alloc ?_ _) | (with_reducible refine Kd.C_drewN ?_ _) | (with_reducible refine Kd.C_drew ?_))); (case side4 => exact HC4.out); (case side5 => repeat (first | exact (Kd.C_below HR5.out HB.out) | (with_reducible refine Kd.C_alloc ?_ _) | (with_reducible refine Kd.C_drewN ?_ _) | (with_reducible refine Kd.C_drew ?_))); (case side6 => exact HC5.out); (case side7 => exact GlobT.below hGT (by repeat (first | (with_reducible first | exact HB.out | apply below_alloc | apply pw_below_drewN | apply below_drew1 | refine below_set ?_ GE687.out) | exact HB.out))); rintro e w25 ⟨v692, rfl, ho0, hb⟩; refine ⟨_, rfl, ?_⟩; have n0_ := Aside0.mk (Kd.R_lower ho0 (below_size (by repeat (first | (with_reducible first | exact HB.out | apply below_alloc | apply pw_below_drewN | apply below_drew1 | refine below_set ?_ GE687.out) | exact HB.out)))); have n1_ := Aside0.mk (blk_below (g := gb687) (o := .cells #[.int .i64 a0_0, .int .i64 a0_1, .int .i64 a0_2, .int .u64 a0_3, .int .u64 a0_4, .int .u64 a0_5] 37 (0, 0)) (by (with_reducible repeat (first | refine blk_drewN ?_ _ | refine blk_drew ?_ | refine blk_alloc ?_ _)); exact BK687.out) hb); have n2_ := Aside0.mk (below_step (by repeat (first | (with_reducible first | exact HB.out | apply below_alloc | apply pw_below_drewN | apply below_drew1 | refine below_set ?_ GE687.out) | exact HB.out)) hb); clear BK687; clear HB; have HO693 := n0_; have BK687 := n1_; have HB := n2_; clear n0_ n1_ n2_; (try clear hb); (try clear hb2); (try clear hk); (try clear hi); (try clear ho0)) | ((with_reducible refine gate_callee (f := 34) rfl ?_); refine goesL_ (some 67) rfl rfl Tryd.func34 (by kernel_rfl) rfl #[.int .u64 a1, .int .u64 a2] rfl (by (try simp only [List.map_toArray, List.map_cons, List.map_nil]); first | done | rfl | (simp only [List.length_drop, List.length_take]; rfl)) ?_; (with_reducible refine (spec_ProofParts.calls kj18 a1 a2 t694 _ A22.out).mono ?_); rintro e w26 ⟨v695, rfl, ho0, hb⟩; refine ⟨_, rfl, ?_⟩; have n0_ := Aside0.mk (Kd.R_below (by (with_reducible repeat (first | apply Kd.R_alloc | apply Kd.R_drewN | apply Kd.R_drew)); exact HO693.out) hb); have n1_ := Aside0.mk (Kd.R_lower ho0 (below_size (by repeat (first | (with_reducible first | exact HB.out | apply below_alloc | apply pw_below_drewN | apply below_drew1 | refine below_set ?_ GE687.out) | exact HB.out)))); have n2_ := Aside0.mk (blk_below (g := gb687) (o := .cells #[.int .i64 a0_0, .int .i64 a0_1, .int .i64 a0_2, .int .u64 a0_3, .int .u64 a0_4, .int .u64 a0_5] 37 (0, 0)) (by (with_reducible repeat (first | refine blk_drewN ?_ _ | refine blk_drew ?_ | refine blk_alloc ?_ _)); exact BK687.out) hb); have n3_ := Aside0.mk (below_step (by repeat (first | (with_reducible first | exact HB.out | apply below_alloc | apply pw_below_drewN | apply below_drew1 | refine below_set ?_ GE687.out) | exact HB.out)) hb); clear HO693; clear BK687; clear HB; have HO693 := n0_; have HO696 := n1_; have BK687 := n2_; have HB := n3_; clear n0_ n1_ n2_ n3_; (try clear hb); (try clear hb2); (try clear hk); (try clear hi); (try clear ho0); obtain ⟨Ao27, co27, eo27⟩ := Kd.R_slice HO696.out; subst eo27))
 (try simp only [Act.put, sA_, sB_, sC_])
 go_cut [] (fun wc => ∃ (kq : Nat), Aside0 (laws_FnVerifyConsistencyFar.j4 kq a1 a2 l3 l4 l5 t690 a0_0 a0_1 a0_2 a0_3 a0_4 a0_5 = some r) ∧ Aside0 (kq ≤ kj18) ∧ Aside0 (wc.heap[gb687]? = some (.cells #[.int .i64 a0_0, .int .i64 a0_1, .int .i64 a0_2, .int .u64 a0_3, .int .u64 a0_4, .int .u64 a0_5] 37 (0, 0))) ∧ Aside0 (Below w.heap.size w wc))
 case first =>
  have H := HC23.out
  clear HC23
  by_cases c28 : (l3.length : Int) = (t694.length : Int)
  ·rw [if_pos c28] at H
   have c28b0 : ((l3.length : Int) == (t694.length : Int)) = true := beq_iff_eq.mpr c28
   have c28b1 : ((l3.length : Int) != (t694.length : Int)) = false := bne_eq_false_iff_eq.mpr c28
   have c28b2 : (l3.length == t694.length) = true := by first | simpa using c28 | (simp at c28 ⊢; omega)
   clear c28
   (first | rw [c28b0] | (simp only [i64_w, i32_w]; rw [c28b0]) | skip)
   have H' := Aside0.mk H
   clear H
   go_wp2
   go_meet
   case rel => exact ⟨_, H', ⟨by have := HJ6.out; have := HJ11.out; have := HJ13.out; have := HJ18.out; first | omega | exact Nat.le_refl _⟩, ⟨by (with_reducible repeat (first | refine blk_drewN ?_ _ | refine blk_drew ?_ | refine blk_alloc ?_ _)); exact BK687.out⟩, ⟨by repeat (first | (with_reducible first | exact HB.out | apply below_alloc | apply pw_below_drewN | apply below_drew1 | refine below_set ?_ GE687.out) | exact HB.out)⟩⟩
  rw [if_neg c28] at H
  have c28b0 : ((l3.length : Int) == (t694.length : Int)) = false := beq_eq_false_iff_ne.mpr c28
  have c28b1 : ((l3.length : Int) != (t694.length : Int)) = true := bne_iff_ne.mpr c28
  have c28b2 : (l3.length == t694.length) = false := by first | simpa using c28 | (simp at c28 ⊢; omega)
  (first | rw [c28b0] | (simp only [i64_w, i32_w]; rw [c28b0]) | skip)
  obtain rfl := Option.some.inj H
  go_wp2
  go_ret
  exact ⟨by first | rfl | (simp [errW_none, errW_some] <;> rfl) | (simp [*, errW_none, errW_some] <;> rfl), by repeat (first | (with_reducible first | exact HB.out | apply below_alloc | apply pw_below_drewN | apply below_drew1 | refine below_set ?_ GE687.out) | exact HB.out)⟩
 clear HC23
 try clear c1
 try clear c2
 try clear p2
 try clear c3
 try clear c4
 try clear c5
 try clear c6
 try clear c10
 try clear c11
 try clear c11b0
 try clear c11b1
 try clear c13
 try clear c16
 try clear c17
 try clear c17b0
 try clear c17b1
 try clear c18
 try clear c18b0
 try clear c18b1
 try clear c20
 try clear c27
 try clear c28
 try clear c28b0
 try clear c28b1
 try clear c28b2
 try clear hcz24_0
 try clear hcz24_1
 try clear hcz24_2
 try clear hcz24_3
 try clear hcz24_4
 try clear hcz24_5
 try clear hfz24_0
 try clear hfz24_1
 try clear hfz24_2
 try clear hfz24_3
 try clear hfz24_4
 try clear hfz24_5
 try clear p2
 obtain ⟨kq, HA, HJ22, BK687, HB⟩ := hcut
 obtain _ | kj22 := kq
 ·exact absurd HA.out (by simp [laws_FnVerifyConsistencyFar.j4])
 have H := HA.out
 clear HA
 simp only [laws_FnVerifyConsistencyFar.j4] at H
 have HC29 := Aside0.mk H
 clear H
 go_upto_block 0 with (fail)
 go_cut [15] (fun v15 wc => ∃ (kq : Nat) (x15_28 : Int), v15 = .int .i64 x15_28 ∧ Aside0 (laws_FnVerifyConsistencyFar.j6 kq a1 a2 l3 l4 l5 t690 x15_28 l4 l3 a0_0 a0_1 a0_2 a0_3 a0_4 a0_5 = some r) ∧ Aside0 (kq ≤ kj22) ∧ Aside0 (wc.heap[gb687]? = some (.cells #[.int .i64 a0_0, .int .i64 a0_1, .int .i64 a0_2, .int .u64 a0_3, .int .u64 a0_4, .int .u64 a0_5] 37 (0, 0))) ∧ Aside0 (Below w.heap.size w wc))
 case first =>
  have H := HC29.out
  clear HC29
  have H' := Aside0.mk H
  clear H
  go_wp2
  try simp only [Act.put, sA_, sB_, sC_]
  go_loopg [15] kj22 (fun kq v15 w' => ∃ (x15_6 : Int), v15 = .int .i64 x15_6 ∧ Aside0 (laws_FnVerifyConsistencyFar.l0 kq a1 a2 l3 l4 l5 t690 x15_6 l4 l3 a0_0 a0_1 a0_2 a0_3 a0_4 a0_5 = some r) ∧ Aside0 (kq ≤ kj22) ∧ Aside0 (w'.heap[gb687]? = some (.cells #[.int .i64 a0_0, .int .i64 a0_1, .int .i64 a0_2, .int .u64 a0_3, .int .u64 a0_4, .int .u64 a0_5] 37 (0, 0))) ∧ Aside0 (Below w.heap.size w w'))
  case atStart => exact ⟨(0), (by first | rfl | (simp; done) | (simp [*]; done)), H', ⟨Nat.le_refl _⟩, ⟨by (with_reducible repeat (first | refine blk_drewN ?_ _ | refine blk_drew ?_ | refine blk_alloc ?_ _)); exact BK687.out⟩, ⟨by repeat (first | (with_reducible first | exact HB.out | apply below_alloc | apply pw_below_drewN | apply below_drew1 | refine below_set ?_ GE687.out) | exact HB.out)⟩⟩
  clear H'
  try clear c1
  try clear c2
  try clear p2
  try clear c3
  try clear c4
  try clear c5
  try clear c6
  try clear c10
  try clear c11
  try clear c11b0
  try clear c11b1
  try clear c13
  try clear c16
  try clear c17
  try clear c17b0
  try clear c17b1
  try clear c18
  try clear c18b0
  try clear c18b1
  try clear c20
  try clear c27
  try clear c28
  try clear c28b0
  try clear c28b1
  try clear c28b2
  try clear hcz24_0
  try clear hcz24_1
  try clear hcz24_2
  try clear hcz24_3
  try clear hcz24_4
  try clear hcz24_5
  try clear hfz24_0
  try clear hfz24_1
  try clear hfz24_2
  try clear hfz24_3
  try clear hfz24_4
  try clear hfz24_5
  try clear p2
  obtain ⟨x15_6, rfl, HA, HK6, BK687, HB⟩ := hrel
  obtain _ | k6 := gk
  ·exact absurd HA.out (by simp [laws_FnVerifyConsistencyFar.l0])
  have H := HA.out
  clear HA
  simp only [laws_FnVerifyConsistencyFar.l0] at H
  by_cases c30 : 0 ≤ x15_6
  ·rw [if_pos c30] at H
   have c30b0 := eq_true c30
   have c30b1 : decide (0 ≤ x15_6) = true := decide_eq_true c30
   clear c30
   obtain ⟨ji31, hji31⟩ : ∃ j_ : Int, (shr .u64 a1 x15_6) = j_ := ⟨_, rfl⟩
   replace H : (if (Go.bits .and .u64 (ji31) 1) = 0 then (laws_FnVerifyConsistencyFar.l0 k6 a1 a2 l3 l4 l5 t690 (wrap64 (x15_6 + 1)) l4 l3 a0_0 a0_1 a0_2 a0_3 a0_4 a0_5) else (laws_FnVerifyConsistencyFar.j6 k6 a1 a2 l3 l4 l5 t690 x15_6 l4 l3 a0_0 a0_1 a0_2 a0_3 a0_4 a0_5)) = some r := by first | (rw [hji31] at H; exact H) | (simp only [hji31] at H ⊢; exact H)
   have hji31_ : (a1 / 2 ^ min x15_6.toNat 64) = ji31 := hji31
   have hji31z : x15_6 ≤ 64 → (a1 / 2 ^ x15_6.toNat) = ji31 := shr_small hji31
   by_cases c32 : (Go.bits .and .u64 (ji31) 1) = 0
   ·rw [if_pos c32] at H
    have c32b0 : ((Go.bits .and .u64 (ji31) 1) == 0) = true := beq_iff_eq.mpr c32
    have c32b1 : ((Go.bits .and .u64 (ji31) 1) != 0) = false := bne_eq_false_iff_eq.mpr c32
    clear c32
    (first | rw [c32b0] | (simp only [i64_w, i32_w]; rw [c32b0]) | skip)
    have H' := Aside0.mk H
    clear H
    go_wp2
    go_roundg k6
    case measure => have := HJ6.out; have := HJ11.out; have := HJ13.out; have := HJ18.out; have := HJ22.out; have := HK6.out; omega
    case rel => exact ⟨(wrap64 (x15_6 + 1)), (by first | rfl | (simp; done) | (simp [*]; done)), H', ⟨by have := HJ6.out; have := HJ11.out; have := HJ13.out; have := HJ18.out; have := HJ22.out; have := HK6.out; omega⟩, ⟨by (with_reducible repeat (first | refine blk_drewN ?_ _ | refine blk_drew ?_ | refine blk_alloc ?_ _)); exact BK687.out⟩, ⟨by repeat (first | (with_reducible first | exact HB.out | apply below_alloc | apply pw_below_drewN | apply below_drew1 | refine below_set ?_ GE687.out) | exact HB.out)⟩⟩
   rw [if_neg c32] at H
   have c32b0 : ((Go.bits .and .u64 (ji31) 1) == 0) = false := beq_eq_false_iff_ne.mpr c32
   have c32b1 : ((Go.bits .and .u64 (ji31) 1) != 0) = true := bne_iff_ne.mpr c32
   (first | rw [c32b0] | (simp only [i64_w, i32_w]; rw [c32b0]) | skip)
   have H' := Aside0.mk H
   clear H
   go_wp2
   go_meet
   case rel => exact ⟨_, (x15_6), (by first | rfl | (simp; done) | (simp [*]; done)), H', ⟨by have := HJ6.out; have := HJ11.out; have := HJ13.out; have := HJ18.out; have := HJ22.out; have := HK6.out; first | omega | exact Nat.le_refl _⟩, ⟨by (with_reducible repeat (first | refine blk_drewN ?_ _ | refine blk_drew ?_ | refine blk_alloc ?_ _)); exact BK687.out⟩, ⟨by repeat (first | (with_reducible first | exact HB.out | apply below_alloc | apply pw_below_drewN | apply below_drew1 | refine below_set ?_ GE687.out) | exact HB.out)⟩⟩
  rw [if_neg c30] at H
  exact absurd H (by simp)
 clear HC29
 try clear c1
 try clear c2
 try clear p2
 try clear c3
 try clear c4
 try clear c5
 try clear c6
 try clear p6
 try clear c10
 try clear c11
 try clear c11b0
 try clear c11b1
 try clear c13
 try clear c16
 try clear c17
 try clear c17b0
 try clear c17b1
 try clear c18
 try clear c18b0
 try clear c18b1
 try clear c20
 try clear c27
 try clear c28
 try clear c28b0
 try clear c28b1
 try clear c28b2
 try clear c30
 try clear c30b0
 try clear c30b1
 try clear c32
 try clear c32b0
 try clear c32b1
 try clear hcz24_0
 try clear hcz24_1
 try clear hcz24_2
 try clear hcz24_3
 try clear hcz24_4
 try clear hcz24_5
 try clear hfz24_0
 try clear hfz24_1
 try clear hfz24_2
 try clear hfz24_3
 try clear hfz24_4
 try clear hfz24_5
 try clear p2
 obtain ⟨kq, x15_28, rfl, HA, HJ28, BK687, HB⟩ := hcut
 obtain _ | kj28 := kq
 ·exact absurd HA.out (by simp [laws_FnVerifyConsistencyFar.j6])
 have H := HA.out
 clear HA
 simp only [laws_FnVerifyConsistencyFar.j6] at H
 by_cases c33 : 0 ≤ x15_28
 ·rw [if_pos c33] at H
  have c33b0 := eq_true c33
  have c33b1 : decide (0 ≤ x15_28) = true := decide_eq_true c33
  clear c33
  obtain ⟨ji34, hji34⟩ : ∃ j_ : Int, (shl .u64 1 x15_28) = j_ := ⟨_, rfl⟩
  replace H : (if a1 = (ji34) then ((spec_Inner.f kj28 (shr .u64 (IntKind.u64.wrap (a1 - 1)) x15_28) (IntKind.u64.wrap ((shr .u64 (IntKind.u64.wrap (a2 - 1)) x15_28) + 1))).bind fun t697 => (if 0 ≤ t697 then (if t697 ≤ (l3.length : Int) then ((spec_Chained.f kj28 a0_0 a0_1 a0_2 a0_3 a0_4 a0_5 l4 (l3.take (t697 : Int).toNat) (shr .u64 (IntKind.u64.wrap (a1 - 1)) x15_28) true).bind fun t702 => ((spec_Chained.f kj28 a0_0 a0_1 a0_2 a0_3 a0_4 a0_5 t702 (l3.drop (t697 : Int).toNat) 18446744073709551615 true).bind fun t709 => ((spec_Chained.f kj28 a0_0 a0_1 a0_2 a0_3 a0_4 a0_5 l4 (l3.take (t697 : Int).toNat) (shr .u64 (IntKind.u64.wrap (a1 - 1)) x15_28) false).bind fun t716 => ((spec_Chained.f kj28 a0_0 a0_1 a0_2 a0_3 a0_4 a0_5 t716 (l3.drop (t697 : Int).toNat) 18446744073709551615 true).bind fun t723 => ((spec_SameText.f t709 l4).bind fun t726 => (if t726 = true then ((spec_SameText.f t723 l5).bind fun t727 => (if t727 = true then (some (t690 == 0)) else (some (t690 == 1)))) else (some (t690 == 1)))))))) else (none)) else (none))) else (if 0 < (l3.length : Int) then (if 1 ≤ (l3.length : Int) then ((some (l3.drop 1 : List (List Int))).bind fun y729 => ((spec_Inner.f kj28 (shr .u64 (IntKind.u64.wrap (a1 - 1)) x15_28) (IntKind.u64.wrap ((shr .u64 (IntKind.u64.wrap (a2 - 1)) x15_28) + 1))).bind fun t733 => (if 0 ≤ t733 then (if t733 ≤ (y729.length : Int) then ((spec_Chained.f kj28 a0_0 a0_1 a0_2 a0_3 a0_4 a0_5 (rd_L4 l3 0) (y729.take (t733 : Int).toNat) (shr .u64 (IntKind.u64.wrap (a1 - 1)) x15_28) true).bind fun t738 => ((spec_Chained.f kj28 a0_0 a0_1 a0_2 a0_3 a0_4 a0_5 t738 (y729.drop (t733 : Int).toNat) 18446744073709551615 true).bind fun t745 => ((spec_Chained.f kj28 a0_0 a0_1 a0_2 a0_3 a0_4 a0_5 (rd_L4 l3 0) (y729.take (t733 : Int).toNat) (shr .u64 (IntKind.u64.wrap (a1 - 1)) x15_28) false).bind fun t752 => ((spec_Chained.f kj28 a0_0 a0_1 a0_2 a0_3 a0_4 a0_5 t752 (y729.drop (t733 : Int).toNat) 18446744073709551615 true).bind fun t759 => ((spec_SameText.f t745 l4).bind fun t762 => (if t762 = true then ((spec_SameText.f t759 l5).bind fun t763 => (if t763 = true then (some (t690 == 0)) else (some (t690 == 1)))) else (some (t690 == 1)))))))) else (none)) else (none)))) else (none)) else (none))) = some r := by first | (rw [hji34] at H; exact H) | (simp only [hji34] at H ⊢; exact H)
  have hji34_ : (IntKind.u64.wrap (1 * 2 ^ min x15_28.toNat 64)) = ji34 := hji34
  have hji34z : x15_28 ≤ 64 → (IntKind.u64.wrap (1 * 2 ^ x15_28.toNat)) = ji34 := shl_small hji34
  have hji34u : (IntKind.u64.wrap (2 ^ min x15_28.toNat 64)) = ji34 := by have h_ := hji34_; rw [Int.one_mul] at h_; exact h_
  have hji34v : x15_28 ≤ 64 → (IntKind.u64.wrap (2 ^ x15_28.toNat)) = ji34 := fun hle_ => by have h_ := hji34z hle_; rw [Int.one_mul] at h_; exact h_
  by_cases c35 : a1 = (ji34)
  ·rw [if_pos c35] at H
   have c35b0 : (a1 == (ji34)) = true := beq_iff_eq.mpr c35
   have c35b1 : (a1 != (ji34)) = false := bne_eq_false_iff_eq.mpr c35
   clear c35
   have c36b0 := eq_true (of_decide_eq_true (by first | (with_reducible assumption) | assumption) : 0 ≤ x15_28)
   obtain ⟨ji37, hji37⟩ : ∃ j_ : Int, (shr .u64 (IntKind.u64.wrap (a1 - 1)) x15_28) = j_ := ⟨_, rfl⟩
   replace H : ((spec_Inner.f kj28 (ji37) (IntKind.u64.wrap ((shr .u64 (IntKind.u64.wrap (a2 - 1)) x15_28) + 1))).bind fun t697 => (if 0 ≤ t697 then (if t697 ≤ (l3.length : Int) then ((spec_Chained.f kj28 a0_0 a0_1 a0_2 a0_3 a0_4 a0_5 l4 (l3.take (t697 : Int).toNat) (ji37) true).bind fun t702 => ((spec_Chained.f kj28 a0_0 a0_1 a0_2 a0_3 a0_4 a0_5 t702 (l3.drop (t697 : Int).toNat) 18446744073709551615 true).bind fun t709 => ((spec_Chained.f kj28 a0_0 a0_1 a0_2 a0_3 a0_4 a0_5 l4 (l3.take (t697 : Int).toNat) (ji37) false).bind fun t716 => ((spec_Chained.f kj28 a0_0 a0_1 a0_2 a0_3 a0_4 a0_5 t716 (l3.drop (t697 : Int).toNat) 18446744073709551615 true).bind fun t723 => ((spec_SameText.f t709 l4).bind fun t726 => (if t726 = true then ((spec_SameText.f t723 l5).bind fun t727 => (if t727 = true then (some (t690 == 0)) else (some (t690 == 1)))) else (some (t690 == 1)))))))) else (none)) else (none))) = some r := by first | (rw [hji37] at H; exact H) | (simp only [hji37] at H ⊢; exact H)
   have hji37_ : ((IntKind.u64.wrap (a1 - 1)) / 2 ^ min x15_28.toNat 64) = ji37 := hji37
   have hji37z : x15_28 ≤ 64 → ((IntKind.u64.wrap (a1 - 1)) / 2 ^ x15_28.toNat) = ji37 := shr_small hji37
   have c38b0 := eq_true (of_decide_eq_true (by first | (with_reducible assumption) | assumption) : 0 ≤ x15_28)
   obtain ⟨ji39, hji39⟩ : ∃ j_ : Int, (shr .u64 (IntKind.u64.wrap (a2 - 1)) x15_28) = j_ := ⟨_, rfl⟩
   replace H : ((spec_Inner.f kj28 (ji37) (IntKind.u64.wrap ((ji39) + 1))).bind fun t697 => (if 0 ≤ t697 then (if t697 ≤ (l3.length : Int) then ((spec_Chained.f kj28 a0_0 a0_1 a0_2 a0_3 a0_4 a0_5 l4 (l3.take (t697 : Int).toNat) (ji37) true).bind fun t702 => ((spec_Chained.f kj28 a0_0 a0_1 a0_2 a0_3 a0_4 a0_5 t702 (l3.drop (t697 : Int).toNat) 18446744073709551615 true).bind fun t709 => ((spec_Chained.f kj28 a0_0 a0_1 a0_2 a0_3 a0_4 a0_5 l4 (l3.take (t697 : Int).toNat) (ji37) false).bind fun t716 => ((spec_Chained.f kj28 a0_0 a0_1 a0_2 a0_3 a0_4 a0_5 t716 (l3.drop (t697 : Int).toNat) 18446744073709551615 true).bind fun t723 => ((spec_SameText.f t709 l4).bind fun t726 => (if t726 = true then ((spec_SameText.f t723 l5).bind fun t727 => (if t727 = true then (some (t690 == 0)) else (some (t690 == 1)))) else (some (t690 == 1)))))))) else (none)) else (none))) = some r := by first | (rw [hji39] at H; exact H) | (simp only [hji39] at H ⊢; exact H)
   have hji39_ : ((IntKind.u64.wrap (a2 - 1)) / 2 ^ min x15_28.toNat 64) = ji39 := hji39
   have hji39z : x15_28 ≤ 64 → ((IntKind.u64.wrap (a2 - 1)) / 2 ^ x15_28.toNat) = ji39 := shr_small hji39
   replace H := Option.bind_eq_some_iff.mp H
   obtain ⟨t697, A400, H⟩ := H
   replace H : (if 0 ≤ t697 then (if t697 ≤ (l3.length : Int) then ((spec_Chained.f kj28 a0_0 a0_1 a0_2 a0_3 a0_4 a0_5 l4 (l3.take (t697 : Int).toNat) (ji37) true).bind fun t702 => ((spec_Chained.f kj28 a0_0 a0_1 a0_2 a0_3 a0_4 a0_5 t702 (l3.drop (t697 : Int).toNat) 18446744073709551615 true).bind fun t709 => ((spec_Chained.f kj28 a0_0 a0_1 a0_2 a0_3 a0_4 a0_5 l4 (l3.take (t697 : Int).toNat) (ji37) false).bind fun t716 => ((spec_Chained.f kj28 a0_0 a0_1 a0_2 a0_3 a0_4 a0_5 t716 (l3.drop (t697 : Int).toNat) 18446744073709551615 true).bind fun t723 => ((spec_SameText.f t709 l4).bind fun t726 => (if t726 = true then ((spec_SameText.f t723 l5).bind fun t727 => (if t727 = true then (some (t690 == 0)) else (some (t690 == 1)))) else (some (t690 == 1)))))))) else (none)) else (none)) = some r := H
   have A40 := Aside0.mk A400
   clear A400
   by_cases c41 : 0 ≤ t697
   ·rw [if_pos c41] at H
    have c41b0 := eq_true c41
    have c41b1 : decide (0 ≤ t697) = true := decide_eq_true c41
    clear c41
    by_cases c42 : t697 ≤ (l3.length : Int)
    ·rw [if_pos c42] at H
     have c42b0 := eq_true c42
     have c42b1 : decide (t697 ≤ (l3.length : Int)) = true := decide_eq_true c42
     clear c42
     obtain ⟨y698, hy698⟩ : ∃ y_ : List (List Int), y_ = (l3.take (t697 : Int).toNat) := ⟨_, rfl⟩
     replace H : ((spec_Chained.f kj28 a0_0 a0_1 a0_2 a0_3 a0_4 a0_5 l4 y698 (ji37) true).bind fun t702 => ((spec_Chained.f kj28 a0_0 a0_1 a0_2 a0_3 a0_4 a0_5 t702 (l3.drop (t697 : Int).toNat) 18446744073709551615 true).bind fun t709 => ((spec_Chained.f kj28 a0_0 a0_1 a0_2 a0_3 a0_4 a0_5 l4 (l3.take (t697 : Int).toNat) (ji37) false).bind fun t716 => ((spec_Chained.f kj28 a0_0 a0_1 a0_2 a0_3 a0_4 a0_5 t716 (l3.drop (t697 : Int).toNat) 18446744073709551615 true).bind fun t723 => ((spec_SameText.f t709 l4).bind fun t726 => (if t726 = true then ((spec_SameText.f t723 l5).bind fun t727 => (if t727 = true then (some (t690 == 0)) else (some (t690 == 1)))) else (some (t690 == 1)))))))) = some r := by first | (rw [hy698]; with_reducible exact H) | (have H2_ := (Option.bind_some _ _).symm.trans H; rw [hy698]; with_reducible exact H2_) | (have H2_ := (Option.bind_some _ _).symm.trans H; with_reducible exact H2_) | with_reducible exact H | (rw [hy698]; exact H) | exact H
     have Ny698 := Aside0.mk hy698
     clear hy698
     replace H := Option.bind_eq_some_iff.mp H
     obtain ⟨t702, A430, H⟩ := H
     replace H : ((spec_Chained.f kj28 a0_0 a0_1 a0_2 a0_3 a0_4 a0_5 t702 (l3.drop (t697 : Int).toNat) 18446744073709551615 true).bind fun t709 => ((spec_Chained.f kj28 a0_0 a0_1 a0_2 a0_3 a0_4 a0_5 l4 (l3.take (t697 : Int).toNat) (ji37) false).bind fun t716 => ((spec_Chained.f kj28 a0_0 a0_1 a0_2 a0_3 a0_4 a0_5 t716 (l3.drop (t697 : Int).toNat) 18446744073709551615 true).bind fun t723 => ((spec_SameText.f t709 l4).bind fun t726 => (if t726 = true then ((spec_SameText.f t723 l5).bind fun t727 => (if t727 = true then (some (t690 == 0)) else (some (t690 == 1)))) else (some (t690 == 1))))))) = some r := H
     have A43 := Aside0.mk A430
     clear A430
     have c44b0 := eq_true (of_decide_eq_true (by first | (with_reducible assumption) | assumption) : 0 ≤ t697)
     have c45b0 := eq_true (of_decide_eq_true (by first | (with_reducible assumption) | assumption) : t697 ≤ (l3.length : Int))
     obtain ⟨y705, hy705⟩ : ∃ y_ : List (List Int), y_ = (l3.drop (t697 : Int).toNat) := ⟨_, rfl⟩
     replace H : ((spec_Chained.f kj28 a0_0 a0_1 a0_2 a0_3 a0_4 a0_5 t702 y705 18446744073709551615 true).bind fun t709 => ((spec_Chained.f kj28 a0_0 a0_1 a0_2 a0_3 a0_4 a0_5 l4 (l3.take (t697 : Int).toNat) (ji37) false).bind fun t716 => ((spec_Chained.f kj28 a0_0 a0_1 a0_2 a0_3 a0_4 a0_5 t716 (l3.drop (t697 : Int).toNat) 18446744073709551615 true).bind fun t723 => ((spec_SameText.f t709 l4).bind fun t726 => (if t726 = true then ((spec_SameText.f t723 l5).bind fun t727 => (if t727 = true then (some (t690 == 0)) else (some (t690 == 1)))) else (some (t690 == 1))))))) = some r := by first | (rw [hy705]; with_reducible exact H) | (have H2_ := (Option.bind_some _ _).symm.trans H; rw [hy705]; with_reducible exact H2_) | (have H2_ := (Option.bind_some _ _).symm.trans H; with_reducible exact H2_) | with_reducible exact H | (rw [hy705]; exact H) | exact H
     have Ny705 := Aside0.mk hy705
     clear hy705
     replace H := Option.bind_eq_some_iff.mp H
     obtain ⟨t709, A460, H⟩ := H
     replace H : ((spec_Chained.f kj28 a0_0 a0_1 a0_2 a0_3 a0_4 a0_5 l4 (l3.take (t697 : Int).toNat) (ji37) false).bind fun t716 => ((spec_Chained.f kj28 a0_0 a0_1 a0_2 a0_3 a0_4 a0_5 t716 (l3.drop (t697 : Int).toNat) 18446744073709551615 true).bind fun t723 => ((spec_SameText.f t709 l4).bind fun t726 => (if t726 = true then ((spec_SameText.f t723 l5).bind fun t727 => (if t727 = true then (some (t690 == 0)) else (some (t690 == 1)))) else (some (t690 == 1)))))) = some r := H
     have A46 := Aside0.mk A460
     clear A460
     have c47b0 := eq_true (of_decide_eq_true (by first | (with_reducible assumption) | assumption) : 0 ≤ t697)
     have c48b0 := eq_true (of_decide_eq_true (by first | (with_reducible assumption) | assumption) : t697 ≤ (l3.length : Int))
     have hy712 : y698 = (l3.take (t697 : Int).toNat) := Ny698.out
     replace H : ((spec_Chained.f kj28 a0_0 a0_1 a0_2 a0_3 a0_4 a0_5 l4 y698 (ji37) false).bind fun t716 => ((spec_Chained.f kj28 a0_0 a0_1 a0_2 a0_3 a0_4 a0_5 t716 (l3.drop (t697 : Int).toNat) 18446744073709551615 true).bind fun t723 => ((spec_SameText.f t709 l4).bind fun t726 => (if t726 = true then ((spec_SameText.f t723 l5).bind fun t727 => (if t727 = true then (some (t690 == 0)) else (some (t690 == 1)))) else (some (t690 == 1)))))) = some r := by first | (rw [hy712]; with_reducible exact H) | (have H2_ := (Option.bind_some _ _).symm.trans H; rw [hy712]; with_reducible exact H2_) | (have H2_ := (Option.bind_some _ _).symm.trans H; with_reducible exact H2_) | with_reducible exact H | (rw [hy712]; exact H) | exact H
     have Ny712 := Aside0.mk hy712
     clear hy712
     replace H := Option.bind_eq_some_iff.mp H
     obtain ⟨t716, A490, H⟩ := H
     replace H : ((spec_Chained.f kj28 a0_0 a0_1 a0_2 a0_3 a0_4 a0_5 t716 (l3.drop (t697 : Int).toNat) 18446744073709551615 true).bind fun t723 => ((spec_SameText.f t709 l4).bind fun t726 => (if t726 = true then ((spec_SameText.f t723 l5).bind fun t727 => (if t727 = true then (some (t690 == 0)) else (some (t690 == 1)))) else (some (t690 == 1))))) = some r := H
     have A49 := Aside0.mk A490
     clear A490
     have c50b0 := eq_true (of_decide_eq_true (by first | (with_reducible assumption) | assumption) : 0 ≤ t697)
     have c51b0 := eq_true (of_decide_eq_true (by first | (with_reducible assumption) | assumption) : t697 ≤ (l3.length : Int))
     have hy719 : y705 = (l3.drop (t697 : Int).toNat) := Ny705.out
     replace H : ((spec_Chained.f kj28 a0_0 a0_1 a0_2 a0_3 a0_4 a0_5 t716 y705 18446744073709551615 true).bind fun t723 => ((spec_SameText.f t709 l4).bind fun t726 => (if t726 = true then ((spec_SameText.f t723 l5).bind fun t727 => (if t727 = true then (some (t690 == 0)) else (some (t690 == 1)))) else (some (t690 == 1))))) = some r := by first | (rw [hy719]; with_reducible exact H) | (have H2_ := (Option.bind_some _ _).symm.trans H; rw [hy719]; with_reducible exact H2_) | (have H2_ := (Option.bind_some _ _).symm.trans H; with_reducible exact H2_) | with_reducible exact H | (rw [hy719]; exact H) | exact H
     have Ny719 := Aside0.mk hy719
     clear hy719
     replace H := Option.bind_eq_some_iff.mp H
     obtain ⟨t723, A520, H⟩ := H
     replace H : ((spec_SameText.f t709 l4).bind fun t726 => (if t726 = true then ((spec_SameText.f t723 l5).bind fun t727 => (if t727 = true then (some (t690 == 0)) else (some (t690 == 1)))) else (some (t690 == 1)))) = some r := H
     have A52 := Aside0.mk A520
     clear A520
     replace H := Option.bind_eq_some_iff.mp H
     obtain ⟨t726, A530, H⟩ := H
     replace H : (if t726 = true then ((spec_SameText.f t723 l5).bind fun t727 => (if t727 = true then (some (t690 == 0)) else (some (t690 == 1)))) else (some (t690 == 1))) = some r := H
     have A53 := Aside0.mk A530
     clear A530
     by_cases c54 : t726 = true
     ·subst c54
      have H1 : ((spec_SameText.f t723 l5).bind fun t727 => (if t727 = true then (some (t690 == 0)) else (some (t690 == 1)))) = some r := by rw [if_pos rfl] at H; exact H
      clear H
      have H := H1
      clear H1
      replace H := Option.bind_eq_some_iff.mp H
      obtain ⟨t727, A550, H⟩ := H
      replace H : (if t727 = true then (some (t690 == 0)) else (some (t690 == 1))) = some r := H
      have A55 := Aside0.mk A550
      clear A550
      by_cases c56 : t727 = true
      ·subst c56
       have H1 : (some (t690 == 0)) = some r := by rw [if_pos rfl] at H; exact H
       clear H
       have H := H1
       clear H1
       obtain rfl := Option.some.inj H
       try go_wp2_with (first | ((with_reducible refine gate_callee (f := 35) rfl ?_); refine goesL_ (some 100) rfl rfl Tryd.func35 (by kernel_rfl) rfl #[.int .u64 ji37, .int .u64 (IntKind.u64.wrap ((ji39) + 1))] rfl (by (try simp only [List.map_toArray, List.map_cons, List.map_nil]); first | done | (simp only [hji37, hji39]; rfl) | rfl | (simp only [List.length_drop, List.length_take]; rfl)) ?_; (with_reducible refine (spec_Inner.calls kj28 ji37 (IntKind.u64.wrap ((ji39) + 1)) t697 _ A40.out).mono ?_); rintro e w' ⟨rfl, ⟨nd, rfl⟩⟩; refine ⟨_, rfl, ?_⟩))
       (try (rw [drewN_self wc]; generalize hq_ : World.drewN wc _ = wc; have n0_ : Aside0 (wc.heap[gb687]? = some (.cells #[.int .i64 a0_0, .int .i64 a0_1, .int .i64 a0_2, .int .u64 a0_3, .int .u64 a0_4, .int .u64 a0_5] 37 (0, 0))) := ⟨by rw [← hq_]; exact (by (with_reducible repeat (first | refine blk_drewN ?_ _ | refine blk_drew ?_ | refine blk_alloc ?_ _)); exact BK687.out)⟩; have n1_ : Aside0 (Below w.heap.size w wc) := ⟨by rw [← hq_]; exact (by repeat (first | (with_reducible first | exact HB.out | apply below_alloc | apply pw_below_drewN | apply below_drew1 | refine below_set ?_ GE687.out) | exact HB.out))⟩; clear BK687 HB hq_; have BK687 := n0_; have HB := n1_; clear n0_ n1_))
       have n0_ := Aside0.mk (blk_drew BK687.out)
       have n1_ := Aside0.mk (below_drew1 HB.out)
       clear BK687
       clear HB
       have BK687 := n0_
       have HB := n1_
       clear n0_ n1_
       have q58 : (t697 : Int) ≤ ((l3.length : Int) : Int) := of_decide_eq_true (by first | (with_reducible assumption) | assumption)
       obtain ⟨i058, hi058, _, hsz58, _⟩ := info_parts info42
       have hroom58 : l3.length ≤ c3 := HC3.out
       have hC58 : Kd.C (Kd.slice 5 (Kd.int .u8)) _ A3 l3.length l3 := HR3.out
       have hcut58 := cut_to (P := Tryd.prog) 38 42 .i64 Tryd.underlying38 hi058 A3 l3.length c3 t697 (of_decide_eq_true (by first | (with_reducible assumption) | assumption)) q58 hroom58
       have hr58 := Kd.C_take (m := (t697 : Int).toNat) hC58 (by omega)
       have hy58 : y698.length = (t697 : Int).toNat := (by rw [Ny698.out, List.length_take]; omega)
       rw [← Ny698.out] at hr58
       rw [← hy58] at hcut58
       have HR701 := Aside0.mk hr58
       have HC701 := Aside0.mk (show y698.length ≤ c3 from by omega)
       clear hr58 hC58 hroom58 hi058 hsz58
       have KY58 := Aside0.mk hy58
       clear hy58
       replace q58 := eq_true q58
       have q59 : (t697 : Int) ≤ ((l3.length : Int) : Int) := of_decide_eq_true (by first | (with_reducible assumption) | assumption)
       obtain ⟨i059, hi059, _, hsz59, _⟩ := info_parts info42
       have hroom59 : l3.length ≤ c3 := HC3.out
       have hC59 : Kd.C (Kd.slice 5 (Kd.int .u8)) _ A3 l3.length l3 := HR3.out
       have q059 : (0 : Int) ≤ (t697 : Int) := of_decide_eq_true (by first | (with_reducible assumption) | assumption)
       have hcut59 := cut_from (P := Tryd.prog) 38 42 .i64 Tryd.underlying38 hi059 1 hsz59 A3 l3.length c3 t697 q059 q59
       have hr59 := Kd.C_drop (m := (t697 : Int).toNat) (c := c3) hC59 (by omega) hroom59
       obtain ⟨A59, hA59⟩ : ∃ A1q_, A1q_ = (if c3 = (t697 : Int).toNat then A3 else (A3 : Option Addr).map (·.add ((t697 : Int).toNat * 1))) := ⟨_, rfl⟩
       obtain ⟨c59, hc59⟩ : ∃ c1q_, c1q_ = c3 - (t697 : Int).toNat := ⟨_, rfl⟩
       have hy59 : y705.length = l3.length - (t697 : Int).toNat := (by rw [Ny705.out, List.length_drop] <;> omega)
       rw [show (l3).drop (t697 : Int).toNat = y705 from Ny705.out.symm] at hr59
       replace hr59 : Kd.C (Kd.slice 5 (Kd.int .u8)) _ A59 y705.length y705 := (by rw [hA59]; exact hr59)
       rw [← hy59, ← hA59, ← hc59] at hcut59
       have HR708 := Aside0.mk hr59
       have HC708 := Aside0.mk (show y705.length ≤ c59 from by rw [hy59, hc59]; exact Nat.sub_le_sub_right hroom59 _)
       clear hr59 hC59 hroom59 hi059 hsz59
       have KC59 := Aside0.mk hc59
       clear hc59
       have KY59 := Aside0.mk hy59
       have KA59 := Aside0.mk hA59
       clear hy59 hA59
       replace q59 := eq_true q59
       refine start_ (n := 13) (S := fun w' => w'.cell? ⟨gb687, 0, none⟩ = some (.int .i64 a0_0) ∧ w'.cell? ⟨gb687, 1, none⟩ = some (.int .i64 a0_1) ∧ w'.cell? ⟨gb687, 2, none⟩ = some (.int .i64 a0_2) ∧ w'.cell? ⟨gb687, 3, none⟩ = some (.int .u64 a0_3) ∧ w'.cell? ⟨gb687, 4, none⟩ = some (.int .u64 a0_4) ∧ w'.cell? ⟨gb687, 5, none⟩ = some (.int .u64 a0_5)) (ds := []) #[false, false, false, false, false, false, false, false, false, false, false, false, false] (by kernel_rfl) rfl rfl ⟨(blk_cell BK687.out 0).trans rfl, (blk_cell BK687.out 1).trans rfl, (blk_cell BK687.out 2).trans rfl, (blk_cell BK687.out 3).trans rfl, (blk_cell BK687.out 4).trans rfl, (blk_cell BK687.out 5).trans rfl⟩ (fun hHeld => ?_); refine with_tabW laws_FnVerifyConsistencyFar.tab15 laws_FnVerifyConsistencyFar.bits15 (fun HT_ HW_ => ?_)
       generalize wc.drew = w57 at BK687 HB HR701 HR708 hHeld ⊢
       refine pure_ (i := 2) (N := some 103) (v := ?_) (a' := ?_) #[false, false, true, false, false, false, false, false, false, false, false, false, false] rfl rfl (any_of HT_.out (by kernel_rfl)) (fun _ _ _ h => h) (Or.inl ⟨by rfl, ?_⟩) ?_ ?_
       rotate_left
       ·intro w'
        go_simp
        with_reducible rfl
       rotate_left
       ·simp only [Act.put, sA_, sB_, sC_, i64_w, i32_w]
        rfl
       refine pure_ (i := 3) (N := some 104) (v := ?_) (a' := ?_) #[false, false, true, true, false, false, false, false, false, false, false, false, false] rfl rfl (any_of HT_.out (by kernel_rfl)) (fun _ _ _ h => h) (Or.inl ⟨by rfl, ?_⟩) ?_ ?_
       rotate_left
       ·intro w'
        go_simp
        with_reducible rfl
       rotate_left
       ·simp only [Act.put, sA_, sB_, sC_, i64_w, i32_w]
        rfl
       refine pure_ (i := 4) (N := some 105) (v := ?_) (a' := ?_) #[false, false, true, true, true, false, false, false, false, false, false, false, false] rfl rfl (any_of HT_.out (by kernel_rfl)) (fun _ _ _ h => h) (Or.inl ⟨by rfl, ?_⟩) ?_ ?_
       rotate_left
       ·intro w'
        go_simp
        with_reducible rfl
       rotate_left
       ·simp only [Act.put, sA_, sB_, sC_, i64_w, i32_w]
        rfl
       refine pure_ (i := 5) (N := some 106) (v := ?_) (a' := ?_) #[false, false, true, true, true, true, false, false, false, false, false, false, false] rfl rfl (any_of HT_.out (by kernel_rfl)) (fun _ _ _ h => h) (Or.inl ⟨by rfl, ?_⟩) ?_ ?_
       rotate_left
       ·intro w'
        go_simp
        with_reducible rfl
       rotate_left
       ·simp only [Act.put, sA_, sB_, sC_, i64_w, i32_w]
        rfl
       refine pure_ (i := 6) (N := some 107) (v := ?_) (a' := ?_) #[false, false, true, true, true, true, true, false, false, false, false, false, false] rfl rfl (any_of HT_.out (by kernel_rfl)) (fun _ _ _ h => h) (Or.inl ⟨by rfl, ?_⟩) ?_ ?_
       rotate_left
       ·intro w'
        go_simp
        with_reducible rfl
       rotate_left
       ·simp only [Act.put, sA_, sB_, sC_, i64_w, i32_w]
        rfl
       refine pure_ (i := 8) (N := some 109) (v := ?_) (a' := ?_) #[false, false, true, true, true, true, true, false, true, false, false, false, false] rfl rfl (any_of HT_.out (by kernel_rfl)) (fun _ _ _ h => h) (Or.inl ⟨by rfl, ?_⟩) ?_ ?_
       rotate_left
       ·intro w'
        go_simp
        with_reducible rfl
       rotate_left
       ·simp only [Act.put, sA_, sB_, sC_, i64_w, i32_w]
        rfl
       refine pure_ (i := 9) (N := some 110) (v := ?_) (a' := ?_) #[false, false, true, true, true, true, true, false, true, true, false, false, false] rfl rfl (any_of HT_.out (by kernel_rfl)) (fun _ _ _ h => h) (Or.inl ⟨by rfl, ?_⟩) ?_ ?_
       rotate_left
       ·intro w'
        go_simp
        with_reducible rfl
       rotate_left
       ·simp only [Act.put, sA_, sB_, sC_, i64_w, i32_w]
        rfl
       refine pure_ (i := 10) (N := some 111) (v := ?_) (a' := ?_) #[false, false, true, true, true, true, true, false, true, true, true, false, false] rfl rfl (any_of HT_.out (by kernel_rfl)) (fun _ _ _ h => h) (Or.inl ⟨by rfl, ?_⟩) ?_ ?_
       rotate_left
       ·intro w'
        go_simp
        with_reducible rfl
       rotate_left
       ·simp only [Act.put, sA_, sB_, sC_, i64_w, i32_w]
        rfl
       refine take_ (i := 0) (N := some 101) (v := ?_) (a' := ?_) #[true, false, true, true, true, true, true, false, true, true, true, false, false] rfl rfl (take_ofW HT_.out HW_.out (by kernel_rfl)) (fun _ _ _ h => h) (Or.inl ⟨by rfl, ?_⟩) hHeld ?_ ?_
       rotate_left
       ·rintro w' ⟨s0, s1, s2, s3, s4, s5⟩
        go_simp
        with_reducible rfl
       rotate_left
       ·simp only [Act.put, sA_, sB_, sC_, i64_w, i32_w]
        rfl
       refine take_ (i := 1) (N := some 102) (v := ?_) (a' := ?_) #[true, true, true, true, true, true, true, false, true, true, true, false, false] rfl rfl (take_ofW HT_.out HW_.out (by kernel_rfl)) (fun _ _ _ h => h) (Or.inl ⟨by rfl, ?_⟩) hHeld ?_ ?_
       rotate_left
       ·rintro w' ⟨s0, s1, s2, s3, s4, s5⟩
        go_simp
        with_reducible rfl
       rotate_left
       ·simp only [Act.put, sA_, sB_, sC_, i64_w, i32_w]
        rfl
       refine one_ (i := 7) (N := some 108) #[true, true, true, true, true, true, true, true, true, true, true, false, false] rfl rfl (one_of HT_.out (by kernel_rfl)) (by decide) (fun K hK => ?_)
       refine goes_ Tryd.func36 (by kernel_rfl) rfl #[.agg #[.int .i64 a0_0, .int .i64 a0_1, .int .i64 a0_2, .int .u64 a0_3, .int .u64 a0_4, .int .u64 a0_5], .slice A4 l4.length c4, .slice A3 y698.length c3, .int .u64 ji37, .bool true] (by rfl) rfl rfl (by (try simp only [List.map_toArray, List.map_cons, List.map_nil]); first | done | (simp only [Ny698.out]; rfl) | (simp only [Ny698.out, hji37]; rfl) | (simp only [hji37]; rfl) | rfl | (simp only [List.length_drop, List.length_take]; rfl)) ?_
       with_reducible refine (spec_Chained.calls kj28 a0_0 a0_1 a0_2 a0_3 a0_4 a0_5 (fun k_ => k_ < w.heap.size) _ _ l4 _ _ y698 ji37 true t702 _ ?side1 ?side2 ?side3 A43.out).mono ?_
       (case side1 => exact Kd.V_mk HC4.out (Kd.F_below (Kd.C_F (Kd.heap_int .u8) HR4.out) (by repeat (first | (with_reducible first | exact HB.out | apply below_alloc | apply pw_below_drewN | apply below_drew1 | refine below_set ?_ GE687.out) | exact HB.out))))
       (case side2 => repeat (first | exact (Kd.C_below HR701.out HB.out) | (with_reducible refine Kd.C_alloc ?_ _) | (with_reducible refine Kd.C_drewN ?_ _) | (with_reducible refine Kd.C_drew ?_)))
       (case side3 => exact HC701.out)
       rintro e w60 ⟨v703, rfl, ho0, hb⟩
       refine ⟨_, rfl, ?_⟩
       have n0_ := Aside0.mk (Kd.V_lower (Kd.V_mono (ok' := fun k_ => k_ ≠ gb687) ho0 (fun k_ hk_ => Or.elim hk_ (fun hs_ => fun e_ => Nat.not_le.2 hs_ (by rw [e_]; exact GW687.out)) (fun hn_ => (Kd.freshB (g := gb687) (o := .cells #[.int .i64 a0_0, .int .i64 a0_1, .int .i64 a0_2, .int .u64 a0_3, .int .u64 a0_4, .int .u64 a0_5] 37 (0, 0)) (by (with_reducible repeat (first | refine blk_drewN ?_ _ | refine blk_drew ?_ | refine blk_alloc ?_ _)); exact BK687.out) k_ hn_)))) (below_size (by repeat (first | (with_reducible first | exact HB.out | apply below_alloc | apply pw_below_drewN | apply below_drew1 | refine below_set ?_ GE687.out) | exact HB.out))))
       have n1_ := Aside0.mk (blk_below (g := gb687) (o := .cells #[.int .i64 a0_0, .int .i64 a0_1, .int .i64 a0_2, .int .u64 a0_3, .int .u64 a0_4, .int .u64 a0_5] 37 (0, 0)) (by (with_reducible repeat (first | refine blk_drewN ?_ _ | refine blk_drew ?_ | refine blk_alloc ?_ _)); exact BK687.out) hb)
       have n2_ := Aside0.mk (below_step (by repeat (first | (with_reducible first | exact HB.out | apply below_alloc | apply pw_below_drewN | apply below_drew1 | refine below_set ?_ GE687.out) | exact HB.out)) hb)
       clear BK687
       clear HB
       have HO704 := n0_
       have BK687 := n1_
       have HB := n2_
       clear n0_ n1_ n2_
       (try clear hb)
       (try clear hb2)
       (try clear hk)
       (try clear hi)
       (try clear ho0)
       obtain ⟨Ao61, co61, eo61⟩ := Kd.V_slice HO704.out
       (first | subst eo61 | (injection eo61 with f1_ f2_ f3_; have f4_ := f1_.symm; have f5_ := f3_.symm; clear f1_ f2_ f3_; subst f4_; subst f5_))
       refine hK.out _ _ ⟨(blk_cell BK687.out 0).trans rfl, (blk_cell BK687.out 1).trans rfl, (blk_cell BK687.out 2).trans rfl, (blk_cell BK687.out 3).trans rfl, (blk_cell BK687.out 4).trans rfl, (blk_cell BK687.out 5).trans rfl⟩ (fun hHeld => ?_)
       clear hK K
       refine norm_ (a' := ?_) ?_ ?_
       rotate_left
       ·show Act.put _ (some 108) _ = _
        simp only [Act.put, sA_, sB_, sC_, i64_w, i32_w]
        rfl
       refine one_ (i := 11) (N := some 112) #[true, true, true, true, true, true, true, true, true, true, true, true, false] rfl rfl (one_of HT_.out (by kernel_rfl)) (by decide) (fun K hK => ?_)
       refine goes_ Tryd.func36 (by kernel_rfl) rfl #[.agg #[.int .i64 a0_0, .int .i64 a0_1, .int .i64 a0_2, .int .u64 a0_3, .int .u64 a0_4, .int .u64 a0_5], .slice Ao61 t702.length co61, .slice A59 y705.length c59, .int .u64 18446744073709551615, .bool true] (by rfl) rfl rfl (by (try simp only [List.map_toArray, List.map_cons, List.map_nil]); first | done | (simp only [Ny705.out]; rfl) | rfl | (simp only [List.length_drop, List.length_take]; rfl)) ?_
       with_reducible refine (spec_Chained.calls kj28 a0_0 a0_1 a0_2 a0_3 a0_4 a0_5 (fun k_ => k_ ≠ gb687) _ _ t702 _ _ y705 18446744073709551615 true t709 _ ?side1 ?side2 ?side3 A46.out).mono ?_
       (case side1 => first | exact HO704.out | exact Kd.V_mono HO704.out (fun k_ hk_ => ⟨⟨hk_.1, hk_.2.1⟩, hk_.2.2⟩))
       (case side2 => repeat (first | exact (Kd.C_below HR708.out HB.out) | (with_reducible refine Kd.C_alloc ?_ _) | (with_reducible refine Kd.C_drewN ?_ _) | (with_reducible refine Kd.C_drew ?_)))
       (case side3 => exact HC708.out)
       rintro e w62 ⟨v710, rfl, ho0, hb⟩
       refine ⟨_, rfl, ?_⟩
       have n0_ := Aside0.mk (Kd.V_below (by (with_reducible repeat (first | apply Kd.V_alloc | apply Kd.V_drewN | apply Kd.V_drew)); exact HO704.out) hb)
       have n1_ := Aside0.mk (Kd.V_lower (Kd.V_mono (ok' := fun k_ => k_ ≠ gb687) ho0 (fun k_ hk_ => Or.elim hk_ (fun hs_ => hs_) (fun hn_ => (Kd.freshB (g := gb687) (o := .cells #[.int .i64 a0_0, .int .i64 a0_1, .int .i64 a0_2, .int .u64 a0_3, .int .u64 a0_4, .int .u64 a0_5] 37 (0, 0)) (by (with_reducible repeat (first | refine blk_drewN ?_ _ | refine blk_drew ?_ | refine blk_alloc ?_ _)); exact BK687.out) k_ hn_)))) (below_size (by repeat (first | (with_reducible first | exact HB.out | apply below_alloc | apply pw_below_drewN | apply below_drew1 | refine below_set ?_ GE687.out) | exact HB.out))))
       have n2_ := Aside0.mk (blk_below (g := gb687) (o := .cells #[.int .i64 a0_0, .int .i64 a0_1, .int .i64 a0_2, .int .u64 a0_3, .int .u64 a0_4, .int .u64 a0_5] 37 (0, 0)) (by (with_reducible repeat (first | refine blk_drewN ?_ _ | refine blk_drew ?_ | refine blk_alloc ?_ _)); exact BK687.out) hb)
       have n3_ := Aside0.mk (below_step (by repeat (first | (with_reducible first | exact HB.out | apply below_alloc | apply pw_below_drewN | apply below_drew1 | refine below_set ?_ GE687.out) | exact HB.out)) hb)
       clear HO704
       clear BK687
       clear HB
       have HO704 := n0_
       have HO711 := n1_
       have BK687 := n2_
       have HB := n3_
       clear n0_ n1_ n2_ n3_
       (try clear hb)
       (try clear hb2)
       (try clear hk)
       (try clear hi)
       (try clear ho0)
       refine hK.out _ _ ⟨(blk_cell BK687.out 0).trans rfl, (blk_cell BK687.out 1).trans rfl, (blk_cell BK687.out 2).trans rfl, (blk_cell BK687.out 3).trans rfl, (blk_cell BK687.out 4).trans rfl, (blk_cell BK687.out 5).trans rfl⟩ (fun hHeld => ?_)
       clear hK K
       refine norm_ (a' := ?_) ?_ ?_
       rotate_left
       ·show Act.put _ (some 112) _ = _
        simp only [Act.put, sA_, sB_, sC_, i64_w, i32_w]
        rfl
       refine pure_ (i := 12) (N := some 20) (v := ?_) (a' := ?_) #[true, true, true, true, true, true, true, true, true, true, true, true, true] rfl rfl (any_of HT_.out (by kernel_rfl)) (fun _ _ _ h => h) (Or.inl ⟨by rfl, ?_⟩) ?_ ?_
       rotate_left
       ·intro w'
        go_simp
        with_reducible rfl
       rotate_left
       ·simp only [Act.put, sA_, sB_, sC_, i64_w, i32_w]
        rfl
       refine done_ (done_of HT_.out (by kernel_rfl)) ?_
       try go_wp2
       have n0_ := Aside0.mk (Kd.V_drew HO704.out)
       have n1_ := Aside0.mk (Kd.V_drew HO711.out)
       have n2_ := Aside0.mk (blk_drew BK687.out)
       have n3_ := Aside0.mk (below_drew1 HB.out)
       clear HO704
       clear HO711
       clear BK687
       clear HB
       have HO704 := n0_
       have HO711 := n1_
       have BK687 := n2_
       have HB := n3_
       clear n0_ n1_ n2_ n3_
       have q64 : (t697 : Int) ≤ ((l3.length : Int) : Int) := of_decide_eq_true (by first | (with_reducible assumption) | assumption)
       obtain ⟨i064, hi064, _, hsz64, _⟩ := info_parts info42
       have hroom64 : l3.length ≤ c3 := HC3.out
       have hC64 : Kd.C (Kd.slice 5 (Kd.int .u8)) _ A3 l3.length l3 := HR3.out
       have hcut64 := cut_to (P := Tryd.prog) 38 42 .i64 Tryd.underlying38 hi064 A3 l3.length c3 t697 (of_decide_eq_true (by first | (with_reducible assumption) | assumption)) q64 hroom64
       have hr64 := Kd.C_take (m := (t697 : Int).toNat) hC64 (by omega)
       have hy64 : y698.length = (t697 : Int).toNat := (by rw [Ny712.out, List.length_take]; omega)
       rw [← Ny712.out] at hr64
       rw [← hy64] at hcut64
       have HR715 := Aside0.mk hr64
       have HC715 := Aside0.mk (show y698.length ≤ c3 from by omega)
       clear hr64 hC64 hroom64 hi064 hsz64
       have KY64 := Aside0.mk hy64
       clear hy64
       replace q64 := eq_true q64
       have q65 : (t697 : Int) ≤ ((l3.length : Int) : Int) := of_decide_eq_true (by first | (with_reducible assumption) | assumption)
       obtain ⟨i065, hi065, _, hsz65, _⟩ := info_parts info42
       have hroom65 : l3.length ≤ c3 := HC3.out
       have hC65 : Kd.C (Kd.slice 5 (Kd.int .u8)) _ A3 l3.length l3 := HR3.out
       have q065 : (0 : Int) ≤ (t697 : Int) := of_decide_eq_true (by first | (with_reducible assumption) | assumption)
       have hcut65 := cut_from (P := Tryd.prog) 38 42 .i64 Tryd.underlying38 hi065 1 hsz65 A3 l3.length c3 t697 q065 q65
       have hr65 := Kd.C_drop (m := (t697 : Int).toNat) (c := c3) hC65 (by omega) hroom65
       have hA65 : A59 = (if c3 = (t697 : Int).toNat then A3 else (A3 : Option Addr).map (·.add ((t697 : Int).toNat * 1))) := KA59.out
       have hc65 : c59 = c3 - (t697 : Int).toNat := KC59.out
       have hy65 : y705.length = l3.length - (t697 : Int).toNat := (by rw [Ny719.out, List.length_drop] <;> omega)
       rw [show (l3).drop (t697 : Int).toNat = y705 from Ny719.out.symm] at hr65
       replace hr65 : Kd.C (Kd.slice 5 (Kd.int .u8)) _ A59 y705.length y705 := (by rw [hA65]; exact hr65)
       rw [← hy65, ← hA65, ← hc65] at hcut65
       have HR722 := Aside0.mk hr65
       have HC722 := Aside0.mk (show y705.length ≤ c59 from by rw [hy65, hc65]; exact Nat.sub_le_sub_right hroom65 _)
       clear hr65 hC65 hroom65 hi065 hsz65 hc65
       have KY65 := Aside0.mk hy65
       have KA65 := Aside0.mk hA65
       clear hy65 hA65
       replace q65 := eq_true q65
       refine start_ (n := 13) (S := fun w' => w'.cell? ⟨gb687, 0, none⟩ = some (.int .i64 a0_0) ∧ w'.cell? ⟨gb687, 1, none⟩ = some (.int .i64 a0_1) ∧ w'.cell? ⟨gb687, 2, none⟩ = some (.int .i64 a0_2) ∧ w'.cell? ⟨gb687, 3, none⟩ = some (.int .u64 a0_3) ∧ w'.cell? ⟨gb687, 4, none⟩ = some (.int .u64 a0_4) ∧ w'.cell? ⟨gb687, 5, none⟩ = some (.int .u64 a0_5)) (ds := []) #[false, false, false, false, false, false, false, false, false, false, false, false, false] (by kernel_rfl) rfl rfl ⟨(blk_cell BK687.out 0).trans rfl, (blk_cell BK687.out 1).trans rfl, (blk_cell BK687.out 2).trans rfl, (blk_cell BK687.out 3).trans rfl, (blk_cell BK687.out 4).trans rfl, (blk_cell BK687.out 5).trans rfl⟩ (fun hHeld => ?_); refine with_tabW laws_FnVerifyConsistencyFar.tab16 laws_FnVerifyConsistencyFar.bits16 (fun HT_ HW_ => ?_)
       generalize w62.drew = w63 at HO704 HO711 BK687 HB HR715 HR722 hHeld ⊢
       refine pure_ (i := 2) (N := some 115) (v := ?_) (a' := ?_) #[false, false, true, false, false, false, false, false, false, false, false, false, false] rfl rfl (any_of HT_.out (by kernel_rfl)) (fun _ _ _ h => h) (Or.inl ⟨by rfl, ?_⟩) ?_ ?_
       rotate_left
       ·intro w'
        go_simp
        with_reducible rfl
       rotate_left
       ·simp only [Act.put, sA_, sB_, sC_, i64_w, i32_w]
        rfl
       refine pure_ (i := 3) (N := some 116) (v := ?_) (a' := ?_) #[false, false, true, true, false, false, false, false, false, false, false, false, false] rfl rfl (any_of HT_.out (by kernel_rfl)) (fun _ _ _ h => h) (Or.inl ⟨by rfl, ?_⟩) ?_ ?_
       rotate_left
       ·intro w'
        go_simp
        with_reducible rfl
       rotate_left
       ·simp only [Act.put, sA_, sB_, sC_, i64_w, i32_w]
        rfl
       refine pure_ (i := 4) (N := some 117) (v := ?_) (a' := ?_) #[false, false, true, true, true, false, false, false, false, false, false, false, false] rfl rfl (any_of HT_.out (by kernel_rfl)) (fun _ _ _ h => h) (Or.inl ⟨by rfl, ?_⟩) ?_ ?_
       rotate_left
       ·intro w'
        go_simp
        with_reducible rfl
       rotate_left
       ·simp only [Act.put, sA_, sB_, sC_, i64_w, i32_w]
        rfl
       refine pure_ (i := 5) (N := some 118) (v := ?_) (a' := ?_) #[false, false, true, true, true, true, false, false, false, false, false, false, false] rfl rfl (any_of HT_.out (by kernel_rfl)) (fun _ _ _ h => h) (Or.inl ⟨by rfl, ?_⟩) ?_ ?_
       rotate_left
       ·intro w'
        go_simp
        with_reducible rfl
       rotate_left
       ·simp only [Act.put, sA_, sB_, sC_, i64_w, i32_w]
        rfl
       refine pure_ (i := 6) (N := some 119) (v := ?_) (a' := ?_) #[false, false, true, true, true, true, true, false, false, false, false, false, false] rfl rfl (any_of HT_.out (by kernel_rfl)) (fun _ _ _ h => h) (Or.inl ⟨by rfl, ?_⟩) ?_ ?_
       rotate_left
       ·intro w'
        go_simp
        with_reducible rfl
       rotate_left
       ·simp only [Act.put, sA_, sB_, sC_, i64_w, i32_w]
        rfl
       refine pure_ (i := 8) (N := some 121) (v := ?_) (a' := ?_) #[false, false, true, true, true, true, true, false, true, false, false, false, false] rfl rfl (any_of HT_.out (by kernel_rfl)) (fun _ _ _ h => h) (Or.inl ⟨by rfl, ?_⟩) ?_ ?_
       rotate_left
       ·intro w'
        go_simp
        with_reducible rfl
       rotate_left
       ·simp only [Act.put, sA_, sB_, sC_, i64_w, i32_w]
        rfl
       refine pure_ (i := 9) (N := some 122) (v := ?_) (a' := ?_) #[false, false, true, true, true, true, true, false, true, true, false, false, false] rfl rfl (any_of HT_.out (by kernel_rfl)) (fun _ _ _ h => h) (Or.inl ⟨by rfl, ?_⟩) ?_ ?_
       rotate_left
       ·intro w'
        go_simp
        with_reducible rfl
       rotate_left
       ·simp only [Act.put, sA_, sB_, sC_, i64_w, i32_w]
        rfl
       refine pure_ (i := 10) (N := some 123) (v := ?_) (a' := ?_) #[false, false, true, true, true, true, true, false, true, true, true, false, false] rfl rfl (any_of HT_.out (by kernel_rfl)) (fun _ _ _ h => h) (Or.inl ⟨by rfl, ?_⟩) ?_ ?_
       rotate_left
       ·intro w'
        go_simp
        with_reducible rfl
       rotate_left
       ·simp only [Act.put, sA_, sB_, sC_, i64_w, i32_w]
        rfl
       refine take_ (i := 0) (N := some 113) (v := ?_) (a' := ?_) #[true, false, true, true, true, true, true, false, true, true, true, false, false] rfl rfl (take_ofW HT_.out HW_.out (by kernel_rfl)) (fun _ _ _ h => h) (Or.inl ⟨by rfl, ?_⟩) hHeld ?_ ?_
       rotate_left
       ·rintro w' ⟨s0, s1, s2, s3, s4, s5⟩
        go_simp
        with_reducible rfl
       rotate_left
       ·simp only [Act.put, sA_, sB_, sC_, i64_w, i32_w]
        rfl
       refine take_ (i := 1) (N := some 114) (v := ?_) (a' := ?_) #[true, true, true, true, true, true, true, false, true, true, true, false, false] rfl rfl (take_ofW HT_.out HW_.out (by kernel_rfl)) (fun _ _ _ h => h) (Or.inl ⟨by rfl, ?_⟩) hHeld ?_ ?_
       rotate_left
       ·rintro w' ⟨s0, s1, s2, s3, s4, s5⟩
        go_simp
        with_reducible rfl
       rotate_left
       ·simp only [Act.put, sA_, sB_, sC_, i64_w, i32_w]
        rfl
       refine one_ (i := 7) (N := some 120) #[true, true, true, true, true, true, true, true, true, true, true, false, false] rfl rfl (one_of HT_.out (by kernel_rfl)) (by decide) (fun K hK => ?_)
       refine goes_ Tryd.func36 (by kernel_rfl) rfl #[.agg #[.int .i64 a0_0, .int .i64 a0_1, .int .i64 a0_2, .int .u64 a0_3, .int .u64 a0_4, .int .u64 a0_5], .slice A4 l4.length c4, .slice A3 y698.length c3, .int .u64 ji37, .bool false] (by rfl) rfl rfl (by (try simp only [List.map_toArray, List.map_cons, List.map_nil]); first | done | (simp only [Ny712.out]; rfl) | (simp only [Ny712.out, hji37]; rfl) | (simp only [hji37]; rfl) | rfl | (simp only [List.length_drop, List.length_take]; rfl)) ?_
       with_reducible refine (spec_Chained.calls kj28 a0_0 a0_1 a0_2 a0_3 a0_4 a0_5 (fun k_ => k_ < w.heap.size) _ _ l4 _ _ y698 ji37 false t716 _ ?side1 ?side2 ?side3 A49.out).mono ?_
       (case side1 => exact Kd.V_mk HC4.out (Kd.F_below (Kd.C_F (Kd.heap_int .u8) HR4.out) (by repeat (first | (with_reducible first | exact HB.out | apply below_alloc | apply pw_below_drewN | apply below_drew1 | refine below_set ?_ GE687.out) | exact HB.out))))
       (case side2 => repeat (first | exact (Kd.C_below HR715.out HB.out) | (with_reducible refine Kd.C_alloc ?_ _) | (with_reducible refine Kd.C_drewN ?_ _) | (with_reducible refine Kd.C_drew ?_)))
       (case side3 => exact HC715.out)
       rintro e w66 ⟨v717, rfl, ho0, hb⟩
       refine ⟨_, rfl, ?_⟩
       have n0_ := Aside0.mk (Kd.V_below (by (with_reducible repeat (first | apply Kd.V_alloc | apply Kd.V_drewN | apply Kd.V_drew)); exact HO704.out) hb)
       have n1_ := Aside0.mk (Kd.V_below (by (with_reducible repeat (first | apply Kd.V_alloc | apply Kd.V_drewN | apply Kd.V_drew)); exact HO711.out) hb)
       have n2_ := Aside0.mk (Kd.V_lower (Kd.V_mono (ok' := fun k_ => k_ ≠ gb687) ho0 (fun k_ hk_ => Or.elim hk_ (fun hs_ => fun e_ => Nat.not_le.2 hs_ (by rw [e_]; exact GW687.out)) (fun hn_ => (Kd.freshB (g := gb687) (o := .cells #[.int .i64 a0_0, .int .i64 a0_1, .int .i64 a0_2, .int .u64 a0_3, .int .u64 a0_4, .int .u64 a0_5] 37 (0, 0)) (by (with_reducible repeat (first | refine blk_drewN ?_ _ | refine blk_drew ?_ | refine blk_alloc ?_ _)); exact BK687.out) k_ hn_)))) (below_size (by repeat (first | (with_reducible first | exact HB.out | apply below_alloc | apply pw_below_drewN | apply below_drew1 | refine below_set ?_ GE687.out) | exact HB.out))))
       have n3_ := Aside0.mk (blk_below (g := gb687) (o := .cells #[.int .i64 a0_0, .int .i64 a0_1, .int .i64 a0_2, .int .u64 a0_3, .int .u64 a0_4, .int .u64 a0_5] 37 (0, 0)) (by (with_reducible repeat (first | refine blk_drewN ?_ _ | refine blk_drew ?_ | refine blk_alloc ?_ _)); exact BK687.out) hb)
       have n4_ := Aside0.mk (below_step (by repeat (first | (with_reducible first | exact HB.out | apply below_alloc | apply pw_below_drewN | apply below_drew1 | refine below_set ?_ GE687.out) | exact HB.out)) hb)
       clear HO704
       clear HO711
       clear BK687
       clear HB
       have HO704 := n0_
       have HO711 := n1_
       have HO718 := n2_
       have BK687 := n3_
       have HB := n4_
       clear n0_ n1_ n2_ n3_ n4_
       (try clear hb)
       (try clear hb2)
       (try clear hk)
       (try clear hi)
       (try clear ho0)
       obtain ⟨Ao67, co67, eo67⟩ := Kd.V_slice HO718.out
       (first | subst eo67 | (injection eo67 with f1_ f2_ f3_; have f4_ := f1_.symm; have f5_ := f3_.symm; clear f1_ f2_ f3_; subst f4_; subst f5_))
       refine hK.out _ _ ⟨(blk_cell BK687.out 0).trans rfl, (blk_cell BK687.out 1).trans rfl, (blk_cell BK687.out 2).trans rfl, (blk_cell BK687.out 3).trans rfl, (blk_cell BK687.out 4).trans rfl, (blk_cell BK687.out 5).trans rfl⟩ (fun hHeld => ?_)
       clear hK K
       refine norm_ (a' := ?_) ?_ ?_
       rotate_left
       ·show Act.put _ (some 120) _ = _
        simp only [Act.put, sA_, sB_, sC_, i64_w, i32_w]
        rfl
       refine one_ (i := 11) (N := some 124) #[true, true, true, true, true, true, true, true, true, true, true, true, false] rfl rfl (one_of HT_.out (by kernel_rfl)) (by decide) (fun K hK => ?_)
       refine goes_ Tryd.func36 (by kernel_rfl) rfl #[.agg #[.int .i64 a0_0, .int .i64 a0_1, .int .i64 a0_2, .int .u64 a0_3, .int .u64 a0_4, .int .u64 a0_5], .slice Ao67 t716.length co67, .slice A59 y705.length c59, .int .u64 18446744073709551615, .bool true] (by rfl) rfl rfl (by (try simp only [List.map_toArray, List.map_cons, List.map_nil]); first | done | (simp only [Ny719.out]; rfl) | rfl | (simp only [List.length_drop, List.length_take]; rfl)) ?_
       with_reducible refine (spec_Chained.calls kj28 a0_0 a0_1 a0_2 a0_3 a0_4 a0_5 (fun k_ => k_ ≠ gb687) _ _ t716 _ _ y705 18446744073709551615 true t723 _ ?side1 ?side2 ?side3 A52.out).mono ?_
       (case side1 => first | exact HO718.out | exact Kd.V_mono HO718.out (fun k_ hk_ => ⟨⟨hk_.1, hk_.2.1⟩, hk_.2.2⟩))
       (case side2 => repeat (first | exact (Kd.C_below HR722.out HB.out) | (with_reducible refine Kd.C_alloc ?_ _) | (with_reducible refine Kd.C_drewN ?_ _) | (with_reducible refine Kd.C_drew ?_)))
       (case side3 => exact HC722.out)
       rintro e w68 ⟨v724, rfl, ho0, hb⟩
       refine ⟨_, rfl, ?_⟩
       have n0_ := Aside0.mk (Kd.V_below (by (with_reducible repeat (first | apply Kd.V_alloc | apply Kd.V_drewN | apply Kd.V_drew)); exact HO704.out) hb)
       have n1_ := Aside0.mk (Kd.V_below (by (with_reducible repeat (first | apply Kd.V_alloc | apply Kd.V_drewN | apply Kd.V_drew)); exact HO711.out) hb)
       have n2_ := Aside0.mk (Kd.V_below (by (with_reducible repeat (first | apply Kd.V_alloc | apply Kd.V_drewN | apply Kd.V_drew)); exact HO718.out) hb)
       have n3_ := Aside0.mk (Kd.V_lower (Kd.V_mono (ok' := fun k_ => k_ ≠ gb687) ho0 (fun k_ hk_ => Or.elim hk_ (fun hs_ => hs_) (fun hn_ => (Kd.freshB (g := gb687) (o := .cells #[.int .i64 a0_0, .int .i64 a0_1, .int .i64 a0_2, .int .u64 a0_3, .int .u64 a0_4, .int .u64 a0_5] 37 (0, 0)) (by (with_reducible repeat (first | refine blk_drewN ?_ _ | refine blk_drew ?_ | refine blk_alloc ?_ _)); exact BK687.out) k_ hn_)))) (below_size (by repeat (first | (with_reducible first | exact HB.out | apply below_alloc | apply pw_below_drewN | apply below_drew1 | refine below_set ?_ GE687.out) | exact HB.out))))
       have n4_ := Aside0.mk (blk_below (g := gb687) (o := .cells #[.int .i64 a0_0, .int .i64 a0_1, .int .i64 a0_2, .int .u64 a0_3, .int .u64 a0_4, .int .u64 a0_5] 37 (0, 0)) (by (with_reducible repeat (first | refine blk_drewN ?_ _ | refine blk_drew ?_ | refine blk_alloc ?_ _)); exact BK687.out) hb)
       have n5_ := Aside0.mk (below_step (by repeat (first | (with_reducible first | exact HB.out | apply below_alloc | apply pw_below_drewN | apply below_drew1 | refine below_set ?_ GE687.out) | exact HB.out)) hb)
       clear HO704
       clear HO711
       clear HO718
       clear BK687
       clear HB
       have HO704 := n0_
       have HO711 := n1_
       have HO718 := n2_
       have HO725 := n3_
       have BK687 := n4_
       have HB := n5_
       clear n0_ n1_ n2_ n3_ n4_ n5_
       (try clear hb)
       (try clear hb2)
       (try clear hk)
       (try clear hi)
       (try clear ho0)
       refine hK.out _ _ ⟨(blk_cell BK687.out 0).trans rfl, (blk_cell BK687.out 1).trans rfl, (blk_cell BK687.out 2).trans rfl, (blk_cell BK687.out 3).trans rfl, (blk_cell BK687.out 4).trans rfl, (blk_cell BK687.out 5).trans rfl⟩ (fun hHeld => ?_)
       clear hK K
       refine norm_ (a' := ?_) ?_ ?_
       rotate_left
       ·show Act.put _ (some 124) _ = _
        simp only [Act.put, sA_, sB_, sC_, i64_w, i32_w]
        rfl
       refine pure_ (i := 12) (N := some 21) (v := ?_) (a' := ?_) #[true, true, true, true, true, true, true, true, true, true, true, true, true] rfl rfl (any_of HT_.out (by kernel_rfl)) (fun _ _ _ h => h) (Or.inl ⟨by rfl, ?_⟩) ?_ ?_
       rotate_left
       ·intro w'
        go_simp
        with_reducible rfl
       rotate_left
       ·simp only [Act.put, sA_, sB_, sC_, i64_w, i32_w]
        rfl
       refine done_ (done_of HT_.out (by kernel_rfl)) ?_
       obtain ⟨Ao69, co69, eo69⟩ := Kd.V_slice HO711.out
       subst eo69
       try go_wp2_with (first | ((with_reducible refine gate_callee (f := 25) rfl ?_); refine goesL_ (some 127) rfl rfl Tryd.func25 (by kernel_rfl) rfl #[.slice Ao69 t709.length co69, .slice A4 l4.length c4] rfl (by (try simp only [List.map_toArray, List.map_cons, List.map_nil]); first | done | rfl | (simp only [List.length_drop, List.length_take]; rfl)) ?_; (with_reducible refine (spec_SameText.calls _ _ t709 _ _ l4 true _ ?side1 ?side2 ?side3 ?side4 A53.out).mono ?_); (case side1 => repeat (first | exact (Kd.V_reads' HO711.out).2.2 | (with_reducible refine Kd.C_alloc ?_ _) | (with_reducible refine Kd.C_drewN ?_ _) | (with_reducible refine Kd.C_drew ?_))); (case side2 => exact (Kd.V_reads' HO711.out).2.1); (case side3 => repeat (first | exact (Kd.C_below HR4.out HB.out) | (with_reducible refine Kd.C_alloc ?_ _) | (with_reducible refine Kd.C_drewN ?_ _) | (with_reducible refine Kd.C_drew ?_))); (case side4 => exact HC4.out); rintro e w' ⟨rfl, ⟨nd, rfl⟩⟩; refine ⟨_, rfl, ?_⟩; obtain ⟨Ao70, co70, eo70⟩ := Kd.V_slice HO725.out; subst eo70) | (go_at_call 25; (with_reducible refine (spec_SameText.calls _ _ t723 _ _ l5 true _ ?side1 ?side2 ?side3 ?side4 A55.out).mono ?_); (case side1 => repeat (first | exact (Kd.V_reads' HO725.out).2.2 | (with_reducible refine Kd.C_alloc ?_ _) | (with_reducible refine Kd.C_drewN ?_ _) | (with_reducible refine Kd.C_drew ?_))); (case side2 => exact (Kd.V_reads' HO725.out).2.1); (case side3 => repeat (first | exact (Kd.C_below HR5.out (by repeat (first | (with_reducible first | exact HB.out | apply below_alloc | apply pw_below_drewN | apply below_drew1 | refine below_set ?_ GE687.out) | exact HB.out))) | (with_reducible refine Kd.C_alloc ?_ _) | (with_reducible refine Kd.C_drewN ?_ _) | (with_reducible refine Kd.C_drew ?_))); (case side4 => exact HC5.out); rintro e w' ⟨rfl, ⟨nd, rfl⟩⟩))
       go_ret
       exact ⟨by first | rfl | (simp [errW_none, errW_some] <;> rfl) | (simp only [← hji34, ← hji37, ← hji39]; first | rfl | (simp [errW_none, errW_some] <;> rfl)) | (simp [*, errW_none, errW_some] <;> rfl), by repeat (first | (with_reducible first | exact HB.out | apply below_alloc | apply pw_below_drewN | apply below_drew1 | refine below_set ?_ GE687.out) | exact HB.out)⟩
      replace c56 := Bool.eq_false_iff.mpr c56
      subst c56
      have H1 : (some (t690 == 1)) = some r := by rw [if_neg (show ¬ (false = true) by decide)] at H; exact H
      clear H
      have H := H1
      clear H1
      obtain rfl := Option.some.inj H
      try go_wp2_with (first | ((with_reducible refine gate_callee (f := 35) rfl ?_); refine goesL_ (some 100) rfl rfl Tryd.func35 (by kernel_rfl) rfl #[.int .u64 ji37, .int .u64 (IntKind.u64.wrap ((ji39) + 1))] rfl (by (try simp only [List.map_toArray, List.map_cons, List.map_nil]); first | done | (simp only [hji37, hji39]; rfl) | rfl | (simp only [List.length_drop, List.length_take]; rfl)) ?_; (with_reducible refine (spec_Inner.calls kj28 ji37 (IntKind.u64.wrap ((ji39) + 1)) t697 _ A40.out).mono ?_); rintro e w' ⟨rfl, ⟨nd, rfl⟩⟩; refine ⟨_, rfl, ?_⟩))
      (try (rw [drewN_self wc]; generalize hq_ : World.drewN wc _ = wc; have n0_ : Aside0 (wc.heap[gb687]? = some (.cells #[.int .i64 a0_0, .int .i64 a0_1, .int .i64 a0_2, .int .u64 a0_3, .int .u64 a0_4, .int .u64 a0_5] 37 (0, 0))) := ⟨by rw [← hq_]; exact (by (with_reducible repeat (first | refine blk_drewN ?_ _ | refine blk_drew ?_ | refine blk_alloc ?_ _)); exact BK687.out)⟩; have n1_ : Aside0 (Below w.heap.size w wc) := ⟨by rw [← hq_]; exact (by repeat (first | (with_reducible first | exact HB.out | apply below_alloc | apply pw_below_drewN | apply below_drew1 | refine below_set ?_ GE687.out) | exact HB.out))⟩; clear BK687 HB hq_; have BK687 := n0_; have HB := n1_; clear n0_ n1_))
      have n0_ := Aside0.mk (blk_drew BK687.out)
      have n1_ := Aside0.mk (below_drew1 HB.out)
      clear BK687
      clear HB
      have BK687 := n0_
      have HB := n1_
      clear n0_ n1_
      have q72 : (t697 : Int) ≤ ((l3.length : Int) : Int) := of_decide_eq_true (by first | (with_reducible assumption) | assumption)
      obtain ⟨i072, hi072, _, hsz72, _⟩ := info_parts info42
      have hroom72 : l3.length ≤ c3 := HC3.out
      have hC72 : Kd.C (Kd.slice 5 (Kd.int .u8)) _ A3 l3.length l3 := HR3.out
      have hcut72 := cut_to (P := Tryd.prog) 38 42 .i64 Tryd.underlying38 hi072 A3 l3.length c3 t697 (of_decide_eq_true (by first | (with_reducible assumption) | assumption)) q72 hroom72
      have hr72 := Kd.C_take (m := (t697 : Int).toNat) hC72 (by omega)
      have hy72 : y698.length = (t697 : Int).toNat := (by rw [Ny698.out, List.length_take]; omega)
      rw [← Ny698.out] at hr72
      rw [← hy72] at hcut72
      have HR701 := Aside0.mk hr72
      have HC701 := Aside0.mk (show y698.length ≤ c3 from by omega)
      clear hr72 hC72 hroom72 hi072 hsz72
      have KY72 := Aside0.mk hy72
      clear hy72
      replace q72 := eq_true q72
      have q73 : (t697 : Int) ≤ ((l3.length : Int) : Int) := of_decide_eq_true (by first | (with_reducible assumption) | assumption)
      obtain ⟨i073, hi073, _, hsz73, _⟩ := info_parts info42
      have hroom73 : l3.length ≤ c3 := HC3.out
      have hC73 : Kd.C (Kd.slice 5 (Kd.int .u8)) _ A3 l3.length l3 := HR3.out
      have q073 : (0 : Int) ≤ (t697 : Int) := of_decide_eq_true (by first | (with_reducible assumption) | assumption)
      have hcut73 := cut_from (P := Tryd.prog) 38 42 .i64 Tryd.underlying38 hi073 1 hsz73 A3 l3.length c3 t697 q073 q73
      have hr73 := Kd.C_drop (m := (t697 : Int).toNat) (c := c3) hC73 (by omega) hroom73
      obtain ⟨A73, hA73⟩ : ∃ A1q_, A1q_ = (if c3 = (t697 : Int).toNat then A3 else (A3 : Option Addr).map (·.add ((t697 : Int).toNat * 1))) := ⟨_, rfl⟩
      obtain ⟨c73, hc73⟩ : ∃ c1q_, c1q_ = c3 - (t697 : Int).toNat := ⟨_, rfl⟩
      have hy73 : y705.length = l3.length - (t697 : Int).toNat := (by rw [Ny705.out, List.length_drop] <;> omega)
      rw [show (l3).drop (t697 : Int).toNat = y705 from Ny705.out.symm] at hr73
      replace hr73 : Kd.C (Kd.slice 5 (Kd.int .u8)) _ A73 y705.length y705 := (by rw [hA73]; exact hr73)
      rw [← hy73, ← hA73, ← hc73] at hcut73
      have HR708 := Aside0.mk hr73
      have HC708 := Aside0.mk (show y705.length ≤ c73 from by rw [hy73, hc73]; exact Nat.sub_le_sub_right hroom73 _)
      clear hr73 hC73 hroom73 hi073 hsz73
      have KC73 := Aside0.mk hc73
      clear hc73
      have KY73 := Aside0.mk hy73
      have KA73 := Aside0.mk hA73
      clear hy73 hA73
      replace q73 := eq_true q73
      refine start_ (n := 13) (S := fun w' => w'.cell? ⟨gb687, 0, none⟩ = some (.int .i64 a0_0) ∧ w'.cell? ⟨gb687, 1, none⟩ = some (.int .i64 a0_1) ∧ w'.cell? ⟨gb687, 2, none⟩ = some (.int .i64 a0_2) ∧ w'.cell? ⟨gb687, 3, none⟩ = some (.int .u64 a0_3) ∧ w'.cell? ⟨gb687, 4, none⟩ = some (.int .u64 a0_4) ∧ w'.cell? ⟨gb687, 5, none⟩ = some (.int .u64 a0_5)) (ds := []) #[false, false, false, false, false, false, false, false, false, false, false, false, false] (by kernel_rfl) rfl rfl ⟨(blk_cell BK687.out 0).trans rfl, (blk_cell BK687.out 1).trans rfl, (blk_cell BK687.out 2).trans rfl, (blk_cell BK687.out 3).trans rfl, (blk_cell BK687.out 4).trans rfl, (blk_cell BK687.out 5).trans rfl⟩ (fun hHeld => ?_); refine with_tabW laws_FnVerifyConsistencyFar.tab15 laws_FnVerifyConsistencyFar.bits15 (fun HT_ HW_ => ?_)
      generalize wc.drew = w71 at BK687 HB HR701 HR708 hHeld ⊢
      refine pure_ (i := 2) (N := some 103) (v := ?_) (a' := ?_) #[false, false, true, false, false, false, false, false, false, false, false, false, false] rfl rfl (any_of HT_.out (by kernel_rfl)) (fun _ _ _ h => h) (Or.inl ⟨by rfl, ?_⟩) ?_ ?_
      rotate_left
      ·intro w'
       go_simp
       with_reducible rfl
      rotate_left
      ·simp only [Act.put, sA_, sB_, sC_, i64_w, i32_w]
       rfl
      refine pure_ (i := 3) (N := some 104) (v := ?_) (a' := ?_) #[false, false, true, true, false, false, false, false, false, false, false, false, false] rfl rfl (any_of HT_.out (by kernel_rfl)) (fun _ _ _ h => h) (Or.inl ⟨by rfl, ?_⟩) ?_ ?_
      rotate_left
      ·intro w'
       go_simp
       with_reducible rfl
      rotate_left
      ·simp only [Act.put, sA_, sB_, sC_, i64_w, i32_w]
       rfl
      refine pure_ (i := 4) (N := some 105) (v := ?_) (a' := ?_) #[false, false, true, true, true, false, false, false, false, false, false, false, false] rfl rfl (any_of HT_.out (by kernel_rfl)) (fun _ _ _ h => h) (Or.inl ⟨by rfl, ?_⟩) ?_ ?_
      rotate_left
      ·intro w'
       go_simp
       with_reducible rfl
      rotate_left
      ·simp only [Act.put, sA_, sB_, sC_, i64_w, i32_w]
       rfl
      refine pure_ (i := 5) (N := some 106) (v := ?_) (a' := ?_) #[false, false, true, true, true, true, false, false, false, false, false, false, false] rfl rfl (any_of HT_.out (by kernel_rfl)) (fun _ _ _ h => h) (Or.inl ⟨by rfl, ?_⟩) ?_ ?_
      rotate_left
      ·intro w'
       go_simp
       with_reducible rfl
      rotate_left
      ·simp only [Act.put, sA_, sB_, sC_, i64_w, i32_w]
       rfl
      refine pure_ (i := 6) (N := some 107) (v := ?_) (a' := ?_) #[false, false, true, true, true, true, true, false, false, false, false, false, false] rfl rfl (any_of HT_.out (by kernel_rfl)) (fun _ _ _ h => h) (Or.inl ⟨by rfl, ?_⟩) ?_ ?_
      rotate_left
      ·intro w'
       go_simp
       with_reducible rfl
      rotate_left
      ·simp only [Act.put, sA_, sB_, sC_, i64_w, i32_w]
       rfl
      refine pure_ (i := 8) (N := some 109) (v := ?_) (a' := ?_) #[false, false, true, true, true, true, true, false, true, false, false, false, false] rfl rfl (any_of HT_.out (by kernel_rfl)) (fun _ _ _ h => h) (Or.inl ⟨by rfl, ?_⟩) ?_ ?_
      rotate_left
      ·intro w'
       go_simp
       with_reducible rfl
      rotate_left
      ·simp only [Act.put, sA_, sB_, sC_, i64_w, i32_w]
       rfl
      refine pure_ (i := 9) (N := some 110) (v := ?_) (a' := ?_) #[false, false, true, true, true, true, true, false, true, true, false, false, false] rfl rfl (any_of HT_.out (by kernel_rfl)) (fun _ _ _ h => h) (Or.inl ⟨by rfl, ?_⟩) ?_ ?_
      rotate_left
      ·intro w'
       go_simp
       with_reducible rfl
      rotate_left
      ·simp only [Act.put, sA_, sB_, sC_, i64_w, i32_w]
       rfl
      refine pure_ (i := 10) (N := some 111) (v := ?_) (a' := ?_) #[false, false, true, true, true, true, true, false, true, true, true, false, false] rfl rfl (any_of HT_.out (by kernel_rfl)) (fun _ _ _ h => h) (Or.inl ⟨by rfl, ?_⟩) ?_ ?_
      rotate_left
      ·intro w'
       go_simp
       with_reducible rfl
      rotate_left
      ·simp only [Act.put, sA_, sB_, sC_, i64_w, i32_w]
       rfl
      refine take_ (i := 0) (N := some 101) (v := ?_) (a' := ?_) #[true, false, true, true, true, true, true, false, true, true, true, false, false] rfl rfl (take_ofW HT_.out HW_.out (by kernel_rfl)) (fun _ _ _ h => h) (Or.inl ⟨by rfl, ?_⟩) hHeld ?_ ?_
      rotate_left
      ·rintro w' ⟨s0, s1, s2, s3, s4, s5⟩
       go_simp
       with_reducible rfl
      rotate_left
      ·simp only [Act.put, sA_, sB_, sC_, i64_w, i32_w]
       rfl
      refine take_ (i := 1) (N := some 102) (v := ?_) (a' := ?_) #[true, true, true, true, true, true, true, false, true, true, true, false, false] rfl rfl (take_ofW HT_.out HW_.out (by kernel_rfl)) (fun _ _ _ h => h) (Or.inl ⟨by rfl, ?_⟩) hHeld ?_ ?_
      rotate_left
      ·rintro w' ⟨s0, s1, s2, s3, s4, s5⟩
       go_simp
       with_reducible rfl
      rotate_left
      ·simp only [Act.put, sA_, sB_, sC_, i64_w, i32_w]
       rfl
      refine one_ (i := 7) (N := some 108) #[true, true, true, true, true, true, true, true, true, true, true, false, false] rfl rfl (one_of HT_.out (by kernel_rfl)) (by decide) (fun K hK => ?_)
      refine goes_ Tryd.func36 (by kernel_rfl) rfl #[.agg #[.int .i64 a0_0, .int .i64 a0_1, .int .i64 a0_2, .int .u64 a0_3, .int .u64 a0_4, .int .u64 a0_5], .slice A4 l4.length c4, .slice A3 y698.length c3, .int .u64 ji37, .bool true] (by rfl) rfl rfl (by (try simp only [List.map_toArray, List.map_cons, List.map_nil]); first | done | (simp only [Ny698.out]; rfl) | (simp only [Ny698.out, hji37]; rfl) | (simp only [hji37]; rfl) | rfl | (simp only [List.length_drop, List.length_take]; rfl)) ?_
      with_reducible refine (spec_Chained.calls kj28 a0_0 a0_1 a0_2 a0_3 a0_4 a0_5 (fun k_ => k_ < w.heap.size) _ _ l4 _ _ y698 ji37 true t702 _ ?side1 ?side2 ?side3 A43.out).mono ?_
      (case side1 => exact Kd.V_mk HC4.out (Kd.F_below (Kd.C_F (Kd.heap_int .u8) HR4.out) (by repeat (first | (with_reducible first | exact HB.out | apply below_alloc | apply pw_below_drewN | apply below_drew1 | refine below_set ?_ GE687.out) | exact HB.out))))
      (case side2 => repeat (first | exact (Kd.C_below HR701.out HB.out) | (with_reducible refine Kd.C_alloc ?_ _) | (with_reducible refine Kd.C_drewN ?_ _) | (with_reducible refine Kd.C_drew ?_)))
      (case side3 => exact HC701.out)
      rintro e w74 ⟨v703, rfl, ho0, hb⟩
      refine ⟨_, rfl, ?_⟩
      have n0_ := Aside0.mk (Kd.V_lower (Kd.V_mono (ok' := fun k_ => k_ ≠ gb687) ho0 (fun k_ hk_ => Or.elim hk_ (fun hs_ => fun e_ => Nat.not_le.2 hs_ (by rw [e_]; exact GW687.out)) (fun hn_ => (Kd.freshB (g := gb687) (o := .cells #[.int .i64 a0_0, .int .i64 a0_1, .int .i64 a0_2, .int .u64 a0_3, .int .u64 a0_4, .int .u64 a0_5] 37 (0, 0)) (by (with_reducible repeat (first | refine blk_drewN ?_ _ | refine blk_drew ?_ | refine blk_alloc ?_ _)); exact BK687.out) k_ hn_)))) (below_size (by repeat (first | (with_reducible first | exact HB.out | apply below_alloc | apply pw_below_drewN | apply below_drew1 | refine below_set ?_ GE687.out) | exact HB.out))))
      have n1_ := Aside0.mk (blk_below (g := gb687) (o := .cells #[.int .i64 a0_0, .int .i64 a0_1, .int .i64 a0_2, .int .u64 a0_3, .int .u64 a0_4, .int .u64 a0_5] 37 (0, 0)) (by (with_reducible repeat (first | refine blk_drewN ?_ _ | refine blk_drew ?_ | refine blk_alloc ?_ _)); exact BK687.out) hb)
      have n2_ := Aside0.mk (below_step (by repeat (first | (with_reducible first | exact HB.out | apply below_alloc | apply pw_below_drewN | apply below_drew1 | refine below_set ?_ GE687.out) | exact HB.out)) hb)
      clear BK687
      clear HB
      have HO704 := n0_
      have BK687 := n1_
      have HB := n2_
      clear n0_ n1_ n2_
      (try clear hb)
      (try clear hb2)
      (try clear hk)
      (try clear hi)
      (try clear ho0)
      obtain ⟨Ao75, co75, eo75⟩ := Kd.V_slice HO704.out
      (first | subst eo75 | (injection eo75 with f1_ f2_ f3_; have f4_ := f1_.symm; have f5_ := f3_.symm; clear f1_ f2_ f3_; subst f4_; subst f5_))
      refine hK.out _ _ ⟨(blk_cell BK687.out 0).trans rfl, (blk_cell BK687.out 1).trans rfl, (blk_cell BK687.out 2).trans rfl, (blk_cell BK687.out 3).trans rfl, (blk_cell BK687.out 4).trans rfl, (blk_cell BK687.out 5).trans rfl⟩ (fun hHeld => ?_)
      clear hK K
      refine norm_ (a' := ?_) ?_ ?_
      rotate_left
      ·show Act.put _ (some 108) _ = _
       simp only [Act.put, sA_, sB_, sC_, i64_w, i32_w]
       rfl
      refine one_ (i := 11) (N := some 112) #[true, true, true, true, true, true, true, true, true, true, true, true, false] rfl rfl (one_of HT_.out (by kernel_rfl)) (by decide) (fun K hK => ?_)
      refine goes_ Tryd.func36 (by kernel_rfl) rfl #[.agg #[.int .i64 a0_0, .int .i64 a0_1, .int .i64 a0_2, .int .u64 a0_3, .int .u64 a0_4, .int .u64 a0_5], .slice Ao75 t702.length co75, .slice A73 y705.length c73, .int .u64 18446744073709551615, .bool true] (by rfl) rfl rfl (by (try simp only [List.map_toArray, List.map_cons, List.map_nil]); first | done | (simp only [Ny705.out]; rfl) | rfl | (simp only [List.length_drop, List.length_take]; rfl)) ?_
      with_reducible refine (spec_Chained.calls kj28 a0_0 a0_1 a0_2 a0_3 a0_4 a0_5 (fun k_ => k_ ≠ gb687) _ _ t702 _ _ y705 18446744073709551615 true t709 _ ?side1 ?side2 ?side3 A46.out).mono ?_
      (case side1 => first | exact HO704.out | exact Kd.V_mono HO704.out (fun k_ hk_ => ⟨⟨hk_.1, hk_.2.1⟩, hk_.2.2⟩))
      (case side2 => repeat (first | exact (Kd.C_below HR708.out HB.out) | (with_reducible refine Kd.C_alloc ?_ _) | (with_reducible refine Kd.C_drewN ?_ _) | (with_reducible refine Kd.C_drew ?_)))
      (case side3 => exact HC708.out)
      rintro e w76 ⟨v710, rfl, ho0, hb⟩
      refine ⟨_, rfl, ?_⟩
      have n0_ := Aside0.mk (Kd.V_below (by (with_reducible repeat (first | apply Kd.V_alloc | apply Kd.V_drewN | apply Kd.V_drew)); exact HO704.out) hb)
      have n1_ := Aside0.mk (Kd.V_lower (Kd.V_mono (ok' := fun k_ => k_ ≠ gb687) ho0 (fun k_ hk_ => Or.elim hk_ (fun hs_ => hs_) (fun hn_ => (Kd.freshB (g := gb687) (o := .cells #[.int .i64 a0_0, .int .i64 a0_1, .int .i64 a0_2, .int .u64 a0_3, .int .u64 a0_4, .int .u64 a0_5] 37 (0, 0)) (by (with_reducible repeat (first | refine blk_drewN ?_ _ | refine blk_drew ?_ | refine blk_alloc ?_ _)); exact BK687.out) k_ hn_)))) (below_size (by repeat (first | (with_reducible first | exact HB.out | apply below_alloc | apply pw_below_drewN | apply below_drew1 | refine below_set ?_ GE687.out) | exact HB.out))))
      have n2_ := Aside0.mk (blk_below (g := gb687) (o := .cells #[.int .i64 a0_0, .int .i64 a0_1, .int .i64 a0_2, .int .u64 a0_3, .int .u64 a0_4, .int .u64 a0_5] 37 (0, 0)) (by (with_reducible repeat (first | refine blk_drewN ?_ _ | refine blk_drew ?_ | refine blk_alloc ?_ _)); exact BK687.out) hb)
      have n3_ := Aside0.mk (below_step (by repeat (first | (with_reducible first | exact HB.out | apply below_alloc | apply pw_below_drewN | apply below_drew1 | refine below_set ?_ GE687.out) | exact HB.out)) hb)
      clear HO704
      clear BK687
      clear HB
      have HO704 := n0_
      have HO711 := n1_
      have BK687 := n2_
      have HB := n3_
      clear n0_ n1_ n2_ n3_
      (try clear hb)
      (try clear hb2)
      (try clear hk)
      (try clear hi)
      (try clear ho0)
      refine hK.out _ _ ⟨(blk_cell BK687.out 0).trans rfl, (blk_cell BK687.out 1).trans rfl, (blk_cell BK687.out 2).trans rfl, (blk_cell BK687.out 3).trans rfl, (blk_cell BK687.out 4).trans rfl, (blk_cell BK687.out 5).trans rfl⟩ (fun hHeld => ?_)
      clear hK K
      refine norm_ (a' := ?_) ?_ ?_
      rotate_left
      ·show Act.put _ (some 112) _ = _
       simp only [Act.put, sA_, sB_, sC_, i64_w, i32_w]
       rfl
      refine pure_ (i := 12) (N := some 20) (v := ?_) (a' := ?_) #[true, true, true, true, true, true, true, true, true, true, true, true, true] rfl rfl (any_of HT_.out (by kernel_rfl)) (fun _ _ _ h => h) (Or.inl ⟨by rfl, ?_⟩) ?_ ?_
      rotate_left
      ·intro w'
       go_simp
       with_reducible rfl
      rotate_left
      ·simp only [Act.put, sA_, sB_, sC_, i64_w, i32_w]
       rfl
      refine done_ (done_of HT_.out (by kernel_rfl)) ?_
      try go_wp2
      have n0_ := Aside0.mk (Kd.V_drew HO704.out)
      have n1_ := Aside0.mk (Kd.V_drew HO711.out)
      have n2_ := Aside0.mk (blk_drew BK687.out)
      have n3_ := Aside0.mk (below_drew1 HB.out)
      clear HO704
      clear HO711
      clear BK687
      clear HB
      have HO704 := n0_
      have HO711 := n1_
      have BK687 := n2_
      have HB := n3_
      clear n0_ n1_ n2_ n3_
      have q78 : (t697 : Int) ≤ ((l3.length : Int) : Int) := of_decide_eq_true (by first | (with_reducible assumption) | assumption)
      obtain ⟨i078, hi078, _, hsz78, _⟩ := info_parts info42
      have hroom78 : l3.length ≤ c3 := HC3.out
      have hC78 : Kd.C (Kd.slice 5 (Kd.int .u8)) _ A3 l3.length l3 := HR3.out
      have hcut78 := cut_to (P := Tryd.prog) 38 42 .i64 Tryd.underlying38 hi078 A3 l3.length c3 t697 (of_decide_eq_true (by first | (with_reducible assumption) | assumption)) q78 hroom78
      have hr78 := Kd.C_take (m := (t697 : Int).toNat) hC78 (by omega)
      have hy78 : y698.length = (t697 : Int).toNat := (by rw [Ny712.out, List.length_take]; omega)
      rw [← Ny712.out] at hr78
      rw [← hy78] at hcut78
      have HR715 := Aside0.mk hr78
      have HC715 := Aside0.mk (show y698.length ≤ c3 from by omega)
      clear hr78 hC78 hroom78 hi078 hsz78
      have KY78 := Aside0.mk hy78
      clear hy78
      replace q78 := eq_true q78
      have q79 : (t697 : Int) ≤ ((l3.length : Int) : Int) := of_decide_eq_true (by first | (with_reducible assumption) | assumption)
      obtain ⟨i079, hi079, _, hsz79, _⟩ := info_parts info42
      have hroom79 : l3.length ≤ c3 := HC3.out
      have hC79 : Kd.C (Kd.slice 5 (Kd.int .u8)) _ A3 l3.length l3 := HR3.out
      have q079 : (0 : Int) ≤ (t697 : Int) := of_decide_eq_true (by first | (with_reducible assumption) | assumption)
      have hcut79 := cut_from (P := Tryd.prog) 38 42 .i64 Tryd.underlying38 hi079 1 hsz79 A3 l3.length c3 t697 q079 q79
      have hr79 := Kd.C_drop (m := (t697 : Int).toNat) (c := c3) hC79 (by omega) hroom79
      have hA79 : A73 = (if c3 = (t697 : Int).toNat then A3 else (A3 : Option Addr).map (·.add ((t697 : Int).toNat * 1))) := KA73.out
      have hc79 : c73 = c3 - (t697 : Int).toNat := KC73.out
      have hy79 : y705.length = l3.length - (t697 : Int).toNat := (by rw [Ny719.out, List.length_drop] <;> omega)
      rw [show (l3).drop (t697 : Int).toNat = y705 from Ny719.out.symm] at hr79
      replace hr79 : Kd.C (Kd.slice 5 (Kd.int .u8)) _ A73 y705.length y705 := (by rw [hA79]; exact hr79)
      rw [← hy79, ← hA79, ← hc79] at hcut79
      have HR722 := Aside0.mk hr79
      have HC722 := Aside0.mk (show y705.length ≤ c73 from by rw [hy79, hc79]; exact Nat.sub_le_sub_right hroom79 _)
      clear hr79 hC79 hroom79 hi079 hsz79 hc79
      have KY79 := Aside0.mk hy79
      have KA79 := Aside0.mk hA79
      clear hy79 hA79
      replace q79 := eq_true q79
      refine start_ (n := 13) (S := fun w' => w'.cell? ⟨gb687, 0, none⟩ = some (.int .i64 a0_0) ∧ w'.cell? ⟨gb687, 1, none⟩ = some (.int .i64 a0_1) ∧ w'.cell? ⟨gb687, 2, none⟩ = some (.int .i64 a0_2) ∧ w'.cell? ⟨gb687, 3, none⟩ = some (.int .u64 a0_3) ∧ w'.cell? ⟨gb687, 4, none⟩ = some (.int .u64 a0_4) ∧ w'.cell? ⟨gb687, 5, none⟩ = some (.int .u64 a0_5)) (ds := []) #[false, false, false, false, false, false, false, false, false, false, false, false, false] (by kernel_rfl) rfl rfl ⟨(blk_cell BK687.out 0).trans rfl, (blk_cell BK687.out 1).trans rfl, (blk_cell BK687.out 2).trans rfl, (blk_cell BK687.out 3).trans rfl, (blk_cell BK687.out 4).trans rfl, (blk_cell BK687.out 5).trans rfl⟩ (fun hHeld => ?_); refine with_tabW laws_FnVerifyConsistencyFar.tab16 laws_FnVerifyConsistencyFar.bits16 (fun HT_ HW_ => ?_)
      generalize w76.drew = w77 at HO704 HO711 BK687 HB HR715 HR722 hHeld ⊢
      refine pure_ (i := 2) (N := some 115) (v := ?_) (a' := ?_) #[false, false, true, false, false, false, false, false, false, false, false, false, false] rfl rfl (any_of HT_.out (by kernel_rfl)) (fun _ _ _ h => h) (Or.inl ⟨by rfl, ?_⟩) ?_ ?_
      rotate_left
      ·intro w'
       go_simp
       with_reducible rfl
      rotate_left
      ·simp only [Act.put, sA_, sB_, sC_, i64_w, i32_w]
       rfl
      refine pure_ (i := 3) (N := some 116) (v := ?_) (a' := ?_) #[false, false, true, true, false, false, false, false, false, false, false, false, false] rfl rfl (any_of HT_.out (by kernel_rfl)) (fun _ _ _ h => h) (Or.inl ⟨by rfl, ?_⟩) ?_ ?_
      rotate_left
      ·intro w'
       go_simp
       with_reducible rfl
      rotate_left
      ·simp only [Act.put, sA_, sB_, sC_, i64_w, i32_w]
       rfl
      refine pure_ (i := 4) (N := some 117) (v := ?_) (a' := ?_) #[false, false, true, true, true, false, false, false, false, false, false, false, false] rfl rfl (any_of HT_.out (by kernel_rfl)) (fun _ _ _ h => h) (Or.inl ⟨by rfl, ?_⟩) ?_ ?_
      rotate_left
      ·intro w'
       go_simp
       with_reducible rfl
      rotate_left
      ·simp only [Act.put, sA_, sB_, sC_, i64_w, i32_w]
       rfl
      refine pure_ (i := 5) (N := some 118) (v := ?_) (a' := ?_) #[false, false, true, true, true, true, false, false, false, false, false, false, false] rfl rfl (any_of HT_.out (by kernel_rfl)) (fun _ _ _ h => h) (Or.inl ⟨by rfl, ?_⟩) ?_ ?_
      rotate_left
      ·intro w'
       go_simp
       with_reducible rfl
      rotate_left
      ·simp only [Act.put, sA_, sB_, sC_, i64_w, i32_w]
       rfl
      refine pure_ (i := 6) (N := some 119) (v := ?_) (a' := ?_) #[false, false, true, true, true, true, true, false, false, false, false, false, false] rfl rfl (any_of HT_.out (by kernel_rfl)) (fun _ _ _ h => h) (Or.inl ⟨by rfl, ?_⟩) ?_ ?_
      rotate_left
      ·intro w'
       go_simp
       with_reducible rfl
      rotate_left
      ·simp only [Act.put, sA_, sB_, sC_, i64_w, i32_w]
       rfl
      refine pure_ (i := 8) (N := some 121) (v := ?_) (a' := ?_) #[false, false, true, true, true, true, true, false, true, false, false, false, false] rfl rfl (any_of HT_.out (by kernel_rfl)) (fun _ _ _ h => h) (Or.inl ⟨by rfl, ?_⟩) ?_ ?_
      rotate_left
      ·intro w'
       go_simp
       with_reducible rfl
      rotate_left
      ·simp only [Act.put, sA_, sB_, sC_, i64_w, i32_w]
       rfl
      refine pure_ (i := 9) (N := some 122) (v := ?_) (a' := ?_) #[false, false, true, true, true, true, true, false, true, true, false, false, false] rfl rfl (any_of HT_.out (by kernel_rfl)) (fun _ _ _ h => h) (Or.inl ⟨by rfl, ?_⟩) ?_ ?_
      rotate_left
      ·intro w'
       go_simp
       with_reducible rfl
      rotate_left
      ·simp only [Act.put, sA_, sB_, sC_, i64_w, i32_w]
       rfl
      refine pure_ (i := 10) (N := some 123) (v := ?_) (a' := ?_) #[false, false, true, true, true, true, true, false, true, true, true, false, false] rfl rfl (any_of HT_.out (by kernel_rfl)) (fun _ _ _ h => h) (Or.inl ⟨by rfl, ?_⟩) ?_ ?_
      rotate_left
      ·intro w'
       go_simp
       with_reducible rfl
      rotate_left
      ·simp only [Act.put, sA_, sB_, sC_, i64_w, i32_w]
       rfl
      refine take_ (i := 0) (N := some 113) (v := ?_) (a' := ?_) #[true, false, true, true, true, true, true, false, true, true, true, false, false] rfl rfl (take_ofW HT_.out HW_.out (by kernel_rfl)) (fun _ _ _ h => h) (Or.inl ⟨by rfl, ?_⟩) hHeld ?_ ?_
      rotate_left
      ·rintro w' ⟨s0, s1, s2, s3, s4, s5⟩
       go_simp
       with_reducible rfl
      rotate_left
      ·simp only [Act.put, sA_, sB_, sC_, i64_w, i32_w]
       rfl
      refine take_ (i := 1) (N := some 114) (v := ?_) (a' := ?_) #[true, true, true, true, true, true, true, false, true, true, true, false, false] rfl rfl (take_ofW HT_.out HW_.out (by kernel_rfl)) (fun _ _ _ h => h) (Or.inl ⟨by rfl, ?_⟩) hHeld ?_ ?_
      rotate_left
      ·rintro w' ⟨s0, s1, s2, s3, s4, s5⟩
       go_simp
       with_reducible rfl
      rotate_left
      ·simp only [Act.put, sA_, sB_, sC_, i64_w, i32_w]
       rfl
      refine one_ (i := 7) (N := some 120) #[true, true, true, true, true, true, true, true, true, true, true, false, false] rfl rfl (one_of HT_.out (by kernel_rfl)) (by decide) (fun K hK => ?_)
      refine goes_ Tryd.func36 (by kernel_rfl) rfl #[.agg #[.int .i64 a0_0, .int .i64 a0_1, .int .i64 a0_2, .int .u64 a0_3, .int .u64 a0_4, .int .u64 a0_5], .slice A4 l4.length c4, .slice A3 y698.length c3, .int .u64 ji37, .bool false] (by rfl) rfl rfl (by (try simp only [List.map_toArray, List.map_cons, List.map_nil]); first | done | (simp only [Ny712.out]; rfl) | (simp only [Ny712.out, hji37]; rfl) | (simp only [hji37]; rfl) | rfl | (simp only [List.length_drop, List.length_take]; rfl)) ?_
      with_reducible refine (spec_Chained.calls kj28 a0_0 a0_1 a0_2 a0_3 a0_4 a0_5 (fun k_ => k_ < w.heap.size) _ _ l4 _ _ y698 ji37 false t716 _ ?side1 ?side2 ?side3 A49.out).mono ?_
      (case side1 => exact Kd.V_mk HC4.out (Kd.F_below (Kd.C_F (Kd.heap_int .u8) HR4.out) (by repeat (first | (with_reducible first | exact HB.out | apply below_alloc | apply pw_below_drewN | apply below_drew1 | refine below_set ?_ GE687.out) | exact HB.out))))
      (case side2 => repeat (first | exact (Kd.C_below HR715.out HB.out) | (with_reducible refine Kd.C_alloc ?_ _) | (with_reducible refine Kd.C_drewN ?_ _) | (with_reducible refine Kd.C_drew ?_)))
      (case side3 => exact HC715.out)
      rintro e w80 ⟨v717, rfl, ho0, hb⟩
      refine ⟨_, rfl, ?_⟩
      have n0_ := Aside0.mk (Kd.V_below (by (with_reducible repeat (first | apply Kd.V_alloc | apply Kd.V_drewN | apply Kd.V_drew)); exact HO704.out) hb)
      have n1_ := Aside0.mk (Kd.V_below (by (with_reducible repeat (first | apply Kd.V_alloc | apply Kd.V_drewN | apply Kd.V_drew)); exact HO711.out) hb)
      have n2_ := Aside0.mk (Kd.V_lower (Kd.V_mono (ok' := fun k_ => k_ ≠ gb687) ho0 (fun k_ hk_ => Or.elim hk_ (fun hs_ => fun e_ => Nat.not_le.2 hs_ (by rw [e_]; exact GW687.out)) (fun hn_ => (Kd.freshB (g := gb687) (o := .cells #[.int .i64 a0_0, .int .i64 a0_1, .int .i64 a0_2, .int .u64 a0_3, .int .u64 a0_4, .int .u64 a0_5] 37 (0, 0)) (by (with_reducible repeat (first | refine blk_drewN ?_ _ | refine blk_drew ?_ | refine blk_alloc ?_ _)); exact BK687.out) k_ hn_)))) (below_size (by repeat (first | (with_reducible first | exact HB.out | apply below_alloc | apply pw_below_drewN | apply below_drew1 | refine below_set ?_ GE687.out) | exact HB.out))))
      have n3_ := Aside0.mk (blk_below (g := gb687) (o := .cells #[.int .i64 a0_0, .int .i64 a0_1, .int .i64 a0_2, .int .u64 a0_3, .int .u64 a0_4, .int .u64 a0_5] 37 (0, 0)) (by (with_reducible repeat (first | refine blk_drewN ?_ _ | refine blk_drew ?_ | refine blk_alloc ?_ _)); exact BK687.out) hb)
      have n4_ := Aside0.mk (below_step (by repeat (first | (with_reducible first | exact HB.out | apply below_alloc | apply pw_below_drewN | apply below_drew1 | refine below_set ?_ GE687.out) | exact HB.out)) hb)
      clear HO704
      clear HO711
      clear BK687
      clear HB
      have HO704 := n0_
      have HO711 := n1_
      have HO718 := n2_
      have BK687 := n3_
      have HB := n4_
      clear n0_ n1_ n2_ n3_ n4_
      (try clear hb)
      (try clear hb2)
      (try clear hk)
      (try clear hi)
      (try clear ho0)
      obtain ⟨Ao81, co81, eo81⟩ := Kd.V_slice HO718.out
      (first | subst eo81 | (injection eo81 with f1_ f2_ f3_; have f4_ := f1_.symm; have f5_ := f3_.symm; clear f1_ f2_ f3_; subst f4_; subst f5_))
      refine hK.out _ _ ⟨(blk_cell BK687.out 0).trans rfl, (blk_cell BK687.out 1).trans rfl, (blk_cell BK687.out 2).trans rfl, (blk_cell BK687.out 3).trans rfl, (blk_cell BK687.out 4).trans rfl, (blk_cell BK687.out 5).trans rfl⟩ (fun hHeld => ?_)
      clear hK K
      refine norm_ (a' := ?_) ?_ ?_
      rotate_left
      ·show Act.put _ (some 120) _ = _
       simp only [Act.put, sA_, sB_, sC_, i64_w, i32_w]
       rfl
      refine one_ (i := 11) (N := some 124) #[true, true, true, true, true, true, true, true, true, true, true, true, false] rfl rfl (one_of HT_.out (by kernel_rfl)) (by decide) (fun K hK => ?_)
      refine goes_ Tryd.func36 (by kernel_rfl) rfl #[.agg #[.int .i64 a0_0, .int .i64 a0_1, .int .i64 a0_2, .int .u64 a0_3, .int .u64 a0_4, .int .u64 a0_5], .slice Ao81 t716.length co81, .slice A73 y705.length c73, .int .u64 18446744073709551615, .bool true] (by rfl) rfl rfl (by (try simp only [List.map_toArray, List.map_cons, List.map_nil]); first | done | (simp only [Ny719.out]; rfl) | rfl | (simp only [List.length_drop, List.length_take]; rfl)) ?_
      with_reducible refine (spec_Chained.calls kj28 a0_0 a0_1 a0_2 a0_3 a0_4 a0_5 (fun k_ => k_ ≠ gb687) _ _ t716 _ _ y705 18446744073709551615 true t723 _ ?side1 ?side2 ?side3 A52.out).mono ?_
      (case side1 => first | exact HO718.out | exact Kd.V_mono HO718.out (fun k_ hk_ => ⟨⟨hk_.1, hk_.2.1⟩, hk_.2.2⟩))
      (case side2 => repeat (first | exact (Kd.C_below HR722.out HB.out) | (with_reducible refine Kd.C_alloc ?_ _) | (with_reducible refine Kd.C_drewN ?_ _) | (with_reducible refine Kd.C_drew ?_)))
      (case side3 => exact HC722.out)
      rintro e w82 ⟨v724, rfl, ho0, hb⟩
      refine ⟨_, rfl, ?_⟩
      have n0_ := Aside0.mk (Kd.V_below (by (with_reducible repeat (first | apply Kd.V_alloc | apply Kd.V_drewN | apply Kd.V_drew)); exact HO704.out) hb)
      have n1_ := Aside0.mk (Kd.V_below (by (with_reducible repeat (first | apply Kd.V_alloc | apply Kd.V_drewN | apply Kd.V_drew)); exact HO711.out) hb)
      have n2_ := Aside0.mk (Kd.V_below (by (with_reducible repeat (first | apply Kd.V_alloc | apply Kd.V_drewN | apply Kd.V_drew)); exact HO718.out) hb)
      have n3_ := Aside0.mk (Kd.V_lower (Kd.V_mono (ok' := fun k_ => k_ ≠ gb687) ho0 (fun k_ hk_ => Or.elim hk_ (fun hs_ => hs_) (fun hn_ => (Kd.freshB (g := gb687) (o := .cells #[.int .i64 a0_0, .int .i64 a0_1, .int .i64 a0_2, .int .u64 a0_3, .int .u64 a0_4, .int .u64 a0_5] 37 (0, 0)) (by (with_reducible repeat (first | refine blk_drewN ?_ _ | refine blk_drew ?_ | refine blk_alloc ?_ _)); exact BK687.out) k_ hn_)))) (below_size (by repeat (first | (with_reducible first | exact HB.out | apply below_alloc | apply pw_below_drewN | apply below_drew1 | refine below_set ?_ GE687.out) | exact HB.out))))
      have n4_ := Aside0.mk (blk_below (g := gb687) (o := .cells #[.int .i64 a0_0, .int .i64 a0_1, .int .i64 a0_2, .int .u64 a0_3, .int .u64 a0_4, .int .u64 a0_5] 37 (0, 0)) (by (with_reducible repeat (first | refine blk_drewN ?_ _ | refine blk_drew ?_ | refine blk_alloc ?_ _)); exact BK687.out) hb)
      have n5_ := Aside0.mk (below_step (by repeat (first | (with_reducible first | exact HB.out | apply below_alloc | apply pw_below_drewN | apply below_drew1 | refine below_set ?_ GE687.out) | exact HB.out)) hb)
      clear HO704
      clear HO711
      clear HO718
      clear BK687
      clear HB
      have HO704 := n0_
      have HO711 := n1_
      have HO718 := n2_
      have HO725 := n3_
      have BK687 := n4_
      have HB := n5_
      clear n0_ n1_ n2_ n3_ n4_ n5_
      (try clear hb)
      (try clear hb2)
      (try clear hk)
      (try clear hi)
      (try clear ho0)
      refine hK.out _ _ ⟨(blk_cell BK687.out 0).trans rfl, (blk_cell BK687.out 1).trans rfl, (blk_cell BK687.out 2).trans rfl, (blk_cell BK687.out 3).trans rfl, (blk_cell BK687.out 4).trans rfl, (blk_cell BK687.out 5).trans rfl⟩ (fun hHeld => ?_)
      clear hK K
      refine norm_ (a' := ?_) ?_ ?_
      rotate_left
      ·show Act.put _ (some 124) _ = _
       simp only [Act.put, sA_, sB_, sC_, i64_w, i32_w]
       rfl
      refine pure_ (i := 12) (N := some 21) (v := ?_) (a' := ?_) #[true, true, true, true, true, true, true, true, true, true, true, true, true] rfl rfl (any_of HT_.out (by kernel_rfl)) (fun _ _ _ h => h) (Or.inl ⟨by rfl, ?_⟩) ?_ ?_
      rotate_left
      ·intro w'
       go_simp
       with_reducible rfl
      rotate_left
      ·simp only [Act.put, sA_, sB_, sC_, i64_w, i32_w]
       rfl
      refine done_ (done_of HT_.out (by kernel_rfl)) ?_
      obtain ⟨Ao83, co83, eo83⟩ := Kd.V_slice HO711.out
      subst eo83
      try go_wp2_with (first | ((with_reducible refine gate_callee (f := 25) rfl ?_); refine goesL_ (some 127) rfl rfl Tryd.func25 (by kernel_rfl) rfl #[.slice Ao83 t709.length co83, .slice A4 l4.length c4] rfl (by (try simp only [List.map_toArray, List.map_cons, List.map_nil]); first | done | rfl | (simp only [List.length_drop, List.length_take]; rfl)) ?_; (with_reducible refine (spec_SameText.calls _ _ t709 _ _ l4 true _ ?side1 ?side2 ?side3 ?side4 A53.out).mono ?_); (case side1 => repeat (first | exact (Kd.V_reads' HO711.out).2.2 | (with_reducible refine Kd.C_alloc ?_ _) | (with_reducible refine Kd.C_drewN ?_ _) | (with_reducible refine Kd.C_drew ?_))); (case side2 => exact (Kd.V_reads' HO711.out).2.1); (case side3 => repeat (first | exact (Kd.C_below HR4.out HB.out) | (with_reducible refine Kd.C_alloc ?_ _) | (with_reducible refine Kd.C_drewN ?_ _) | (with_reducible refine Kd.C_drew ?_))); (case side4 => exact HC4.out); rintro e w' ⟨rfl, ⟨nd, rfl⟩⟩; refine ⟨_, rfl, ?_⟩; obtain ⟨Ao84, co84, eo84⟩ := Kd.V_slice HO725.out; subst eo84) | (go_at_call 25; (with_reducible refine (spec_SameText.calls _ _ t723 _ _ l5 false _ ?side1 ?side2 ?side3 ?side4 A55.out).mono ?_); (case side1 => repeat (first | exact (Kd.V_reads' HO725.out).2.2 | (with_reducible refine Kd.C_alloc ?_ _) | (with_reducible refine Kd.C_drewN ?_ _) | (with_reducible refine Kd.C_drew ?_))); (case side2 => exact (Kd.V_reads' HO725.out).2.1); (case side3 => repeat (first | exact (Kd.C_below HR5.out (by repeat (first | (with_reducible first | exact HB.out | apply below_alloc | apply pw_below_drewN | apply below_drew1 | refine below_set ?_ GE687.out) | exact HB.out))) | (with_reducible refine Kd.C_alloc ?_ _) | (with_reducible refine Kd.C_drewN ?_ _) | (with_reducible refine Kd.C_drew ?_))); (case side4 => exact HC5.out); rintro e w' ⟨rfl, ⟨nd, rfl⟩⟩))
      go_ret
      exact ⟨by first | rfl | (simp [errW_none, errW_some] <;> rfl) | (simp only [← hji34, ← hji37, ← hji39]; first | rfl | (simp [errW_none, errW_some] <;> rfl)) | (simp [*, errW_none, errW_some] <;> rfl), by repeat (first | (with_reducible first | exact HB.out | apply below_alloc | apply pw_below_drewN | apply below_drew1 | refine below_set ?_ GE687.out) | exact HB.out)⟩
     replace c54 := Bool.eq_false_iff.mpr c54
     subst c54
     have H1 : (some (t690 == 1)) = some r := by rw [if_neg (show ¬ (false = true) by decide)] at H; exact H
     clear H
     have H := H1
     clear H1
     obtain rfl := Option.some.inj H
     try go_wp2_with (first | ((with_reducible refine gate_callee (f := 35) rfl ?_); refine goesL_ (some 100) rfl rfl Tryd.func35 (by kernel_rfl) rfl #[.int .u64 ji37, .int .u64 (IntKind.u64.wrap ((ji39) + 1))] rfl (by (try simp only [List.map_toArray, List.map_cons, List.map_nil]); first | done | (simp only [hji37, hji39]; rfl) | rfl | (simp only [List.length_drop, List.length_take]; rfl)) ?_; (with_reducible refine (spec_Inner.calls kj28 ji37 (IntKind.u64.wrap ((ji39) + 1)) t697 _ A40.out).mono ?_); rintro e w' ⟨rfl, ⟨nd, rfl⟩⟩; refine ⟨_, rfl, ?_⟩))
     (try (rw [drewN_self wc]; generalize hq_ : World.drewN wc _ = wc; have n0_ : Aside0 (wc.heap[gb687]? = some (.cells #[.int .i64 a0_0, .int .i64 a0_1, .int .i64 a0_2, .int .u64 a0_3, .int .u64 a0_4, .int .u64 a0_5] 37 (0, 0))) := ⟨by rw [← hq_]; exact (by (with_reducible repeat (first | refine blk_drewN ?_ _ | refine blk_drew ?_ | refine blk_alloc ?_ _)); exact BK687.out)⟩; have n1_ : Aside0 (Below w.heap.size w wc) := ⟨by rw [← hq_]; exact (by repeat (first | (with_reducible first | exact HB.out | apply below_alloc | apply pw_below_drewN | apply below_drew1 | refine below_set ?_ GE687.out) | exact HB.out))⟩; clear BK687 HB hq_; have BK687 := n0_; have HB := n1_; clear n0_ n1_))
     have n0_ := Aside0.mk (blk_drew BK687.out)
     have n1_ := Aside0.mk (below_drew1 HB.out)
     clear BK687
     clear HB
     have BK687 := n0_
     have HB := n1_
     clear n0_ n1_
     have q86 : (t697 : Int) ≤ ((l3.length : Int) : Int) := of_decide_eq_true (by first | (with_reducible assumption) | assumption)
     obtain ⟨i086, hi086, _, hsz86, _⟩ := info_parts info42
     have hroom86 : l3.length ≤ c3 := HC3.out
     have hC86 : Kd.C (Kd.slice 5 (Kd.int .u8)) _ A3 l3.length l3 := HR3.out
     have hcut86 := cut_to (P := Tryd.prog) 38 42 .i64 Tryd.underlying38 hi086 A3 l3.length c3 t697 (of_decide_eq_true (by first | (with_reducible assumption) | assumption)) q86 hroom86
     have hr86 := Kd.C_take (m := (t697 : Int).toNat) hC86 (by omega)
     have hy86 : y698.length = (t697 : Int).toNat := (by rw [Ny698.out, List.length_take]; omega)
     rw [← Ny698.out] at hr86
     rw [← hy86] at hcut86
     have HR701 := Aside0.mk hr86
     have HC701 := Aside0.mk (show y698.length ≤ c3 from by omega)
     clear hr86 hC86 hroom86 hi086 hsz86
     have KY86 := Aside0.mk hy86
     clear hy86
     replace q86 := eq_true q86
     have q87 : (t697 : Int) ≤ ((l3.length : Int) : Int) := of_decide_eq_true (by first | (with_reducible assumption) | assumption)
     obtain ⟨i087, hi087, _, hsz87, _⟩ := info_parts info42
     have hroom87 : l3.length ≤ c3 := HC3.out
     have hC87 : Kd.C (Kd.slice 5 (Kd.int .u8)) _ A3 l3.length l3 := HR3.out
     have q087 : (0 : Int) ≤ (t697 : Int) := of_decide_eq_true (by first | (with_reducible assumption) | assumption)
     have hcut87 := cut_from (P := Tryd.prog) 38 42 .i64 Tryd.underlying38 hi087 1 hsz87 A3 l3.length c3 t697 q087 q87
     have hr87 := Kd.C_drop (m := (t697 : Int).toNat) (c := c3) hC87 (by omega) hroom87
     obtain ⟨A87, hA87⟩ : ∃ A1q_, A1q_ = (if c3 = (t697 : Int).toNat then A3 else (A3 : Option Addr).map (·.add ((t697 : Int).toNat * 1))) := ⟨_, rfl⟩
     obtain ⟨c87, hc87⟩ : ∃ c1q_, c1q_ = c3 - (t697 : Int).toNat := ⟨_, rfl⟩
     have hy87 : y705.length = l3.length - (t697 : Int).toNat := (by rw [Ny705.out, List.length_drop] <;> omega)
     rw [show (l3).drop (t697 : Int).toNat = y705 from Ny705.out.symm] at hr87
     replace hr87 : Kd.C (Kd.slice 5 (Kd.int .u8)) _ A87 y705.length y705 := (by rw [hA87]; exact hr87)
     rw [← hy87, ← hA87, ← hc87] at hcut87
     have HR708 := Aside0.mk hr87
     have HC708 := Aside0.mk (show y705.length ≤ c87 from by rw [hy87, hc87]; exact Nat.sub_le_sub_right hroom87 _)
     clear hr87 hC87 hroom87 hi087 hsz87
     have KC87 := Aside0.mk hc87
     clear hc87
     have KY87 := Aside0.mk hy87
     have KA87 := Aside0.mk hA87
     clear hy87 hA87
     replace q87 := eq_true q87
     refine start_ (n := 13) (S := fun w' => w'.cell? ⟨gb687, 0, none⟩ = some (.int .i64 a0_0) ∧ w'.cell? ⟨gb687, 1, none⟩ = some (.int .i64 a0_1) ∧ w'.cell? ⟨gb687, 2, none⟩ = some (.int .i64 a0_2) ∧ w'.cell? ⟨gb687, 3, none⟩ = some (.int .u64 a0_3) ∧ w'.cell? ⟨gb687, 4, none⟩ = some (.int .u64 a0_4) ∧ w'.cell? ⟨gb687, 5, none⟩ = some (.int .u64 a0_5)) (ds := []) #[false, false, false, false, false, false, false, false, false, false, false, false, false] (by kernel_rfl) rfl rfl ⟨(blk_cell BK687.out 0).trans rfl, (blk_cell BK687.out 1).trans rfl, (blk_cell BK687.out 2).trans rfl, (blk_cell BK687.out 3).trans rfl, (blk_cell BK687.out 4).trans rfl, (blk_cell BK687.out 5).trans rfl⟩ (fun hHeld => ?_); refine with_tabW laws_FnVerifyConsistencyFar.tab15 laws_FnVerifyConsistencyFar.bits15 (fun HT_ HW_ => ?_)
     generalize wc.drew = w85 at BK687 HB HR701 HR708 hHeld ⊢
     refine pure_ (i := 2) (N := some 103) (v := ?_) (a' := ?_) #[false, false, true, false, false, false, false, false, false, false, false, false, false] rfl rfl (any_of HT_.out (by kernel_rfl)) (fun _ _ _ h => h) (Or.inl ⟨by rfl, ?_⟩) ?_ ?_
     rotate_left
     ·intro w'
      go_simp
      with_reducible rfl
     rotate_left
     ·simp only [Act.put, sA_, sB_, sC_, i64_w, i32_w]
      rfl
     refine pure_ (i := 3) (N := some 104) (v := ?_) (a' := ?_) #[false, false, true, true, false, false, false, false, false, false, false, false, false] rfl rfl (any_of HT_.out (by kernel_rfl)) (fun _ _ _ h => h) (Or.inl ⟨by rfl, ?_⟩) ?_ ?_
     rotate_left
     ·intro w'
      go_simp
      with_reducible rfl
     rotate_left
     ·simp only [Act.put, sA_, sB_, sC_, i64_w, i32_w]
      rfl
     refine pure_ (i := 4) (N := some 105) (v := ?_) (a' := ?_) #[false, false, true, true, true, false, false, false, false, false, false, false, false] rfl rfl (any_of HT_.out (by kernel_rfl)) (fun _ _ _ h => h) (Or.inl ⟨by rfl, ?_⟩) ?_ ?_
     rotate_left
     ·intro w'
      go_simp
      with_reducible rfl
     rotate_left
     ·simp only [Act.put, sA_, sB_, sC_, i64_w, i32_w]
      rfl
     refine pure_ (i := 5) (N := some 106) (v := ?_) (a' := ?_) #[false, false, true, true, true, true, false, false, false, false, false, false, false] rfl rfl (any_of HT_.out (by kernel_rfl)) (fun _ _ _ h => h) (Or.inl ⟨by rfl, ?_⟩) ?_ ?_
     rotate_left
     ·intro w'
      go_simp
      with_reducible rfl
     rotate_left
     ·simp only [Act.put, sA_, sB_, sC_, i64_w, i32_w]
      rfl
     refine pure_ (i := 6) (N := some 107) (v := ?_) (a' := ?_) #[false, false, true, true, true, true, true, false, false, false, false, false, false] rfl rfl (any_of HT_.out (by kernel_rfl)) (fun _ _ _ h => h) (Or.inl ⟨by rfl, ?_⟩) ?_ ?_
     rotate_left
     ·intro w'
      go_simp
      with_reducible rfl
     rotate_left
     ·simp only [Act.put, sA_, sB_, sC_, i64_w, i32_w]
      rfl
     refine pure_ (i := 8) (N := some 109) (v := ?_) (a' := ?_) #[false, false, true, true, true, true, true, false, true, false, false, false, false] rfl rfl (any_of HT_.out (by kernel_rfl)) (fun _ _ _ h => h) (Or.inl ⟨by rfl, ?_⟩) ?_ ?_
     rotate_left
     ·intro w'
      go_simp
      with_reducible rfl
     rotate_left
     ·simp only [Act.put, sA_, sB_, sC_, i64_w, i32_w]
      rfl
     refine pure_ (i := 9) (N := some 110) (v := ?_) (a' := ?_) #[false, false, true, true, true, true, true, false, true, true, false, false, false] rfl rfl (any_of HT_.out (by kernel_rfl)) (fun _ _ _ h => h) (Or.inl ⟨by rfl, ?_⟩) ?_ ?_
     rotate_left
     ·intro w'
      go_simp
      with_reducible rfl
     rotate_left
     ·simp only [Act.put, sA_, sB_, sC_, i64_w, i32_w]
      rfl
     refine pure_ (i := 10) (N := some 111) (v := ?_) (a' := ?_) #[false, false, true, true, true, true, true, false, true, true, true, false, false] rfl rfl (any_of HT_.out (by kernel_rfl)) (fun _ _ _ h => h) (Or.inl ⟨by rfl, ?_⟩) ?_ ?_
     rotate_left
     ·intro w'
      go_simp
      with_reducible rfl
     rotate_left
     ·simp only [Act.put, sA_, sB_, sC_, i64_w, i32_w]
      rfl
     refine take_ (i := 0) (N := some 101) (v := ?_) (a' := ?_) #[true, false, true, true, true, true, true, false, true, true, true, false, false] rfl rfl (take_ofW HT_.out HW_.out (by kernel_rfl)) (fun _ _ _ h => h) (Or.inl ⟨by rfl, ?_⟩) hHeld ?_ ?_
     rotate_left
     ·rintro w' ⟨s0, s1, s2, s3, s4, s5⟩
      go_simp
      with_reducible rfl
     rotate_left
     ·simp only [Act.put, sA_, sB_, sC_, i64_w, i32_w]
      rfl
     refine take_ (i := 1) (N := some 102) (v := ?_) (a' := ?_) #[true, true, true, true, true, true, true, false, true, true, true, false, false] rfl rfl (take_ofW HT_.out HW_.out (by kernel_rfl)) (fun _ _ _ h => h) (Or.inl ⟨by rfl, ?_⟩) hHeld ?_ ?_
     rotate_left
     ·rintro w' ⟨s0, s1, s2, s3, s4, s5⟩
      go_simp
      with_reducible rfl
     rotate_left
     ·simp only [Act.put, sA_, sB_, sC_, i64_w, i32_w]
      rfl
     refine one_ (i := 7) (N := some 108) #[true, true, true, true, true, true, true, true, true, true, true, false, false] rfl rfl (one_of HT_.out (by kernel_rfl)) (by decide) (fun K hK => ?_)
     refine goes_ Tryd.func36 (by kernel_rfl) rfl #[.agg #[.int .i64 a0_0, .int .i64 a0_1, .int .i64 a0_2, .int .u64 a0_3, .int .u64 a0_4, .int .u64 a0_5], .slice A4 l4.length c4, .slice A3 y698.length c3, .int .u64 ji37, .bool true] (by rfl) rfl rfl (by (try simp only [List.map_toArray, List.map_cons, List.map_nil]); first | done | (simp only [Ny698.out]; rfl) | (simp only [Ny698.out, hji37]; rfl) | (simp only [hji37]; rfl) | rfl | (simp only [List.length_drop, List.length_take]; rfl)) ?_
     with_reducible refine (spec_Chained.calls kj28 a0_0 a0_1 a0_2 a0_3 a0_4 a0_5 (fun k_ => k_ < w.heap.size) _ _ l4 _ _ y698 ji37 true t702 _ ?side1 ?side2 ?side3 A43.out).mono ?_
     (case side1 => exact Kd.V_mk HC4.out (Kd.F_below (Kd.C_F (Kd.heap_int .u8) HR4.out) (by repeat (first | (with_reducible first | exact HB.out | apply below_alloc | apply pw_below_drewN | apply below_drew1 | refine below_set ?_ GE687.out) | exact HB.out))))
     (case side2 => repeat (first | exact (Kd.C_below HR701.out HB.out) | (with_reducible refine Kd.C_alloc ?_ _) | (with_reducible refine Kd.C_drewN ?_ _) | (with_reducible refine Kd.C_drew ?_)))
     (case side3 => exact HC701.out)
     rintro e w88 ⟨v703, rfl, ho0, hb⟩
     refine ⟨_, rfl, ?_⟩
     have n0_ := Aside0.mk (Kd.V_lower (Kd.V_mono (ok' := fun k_ => k_ ≠ gb687) ho0 (fun k_ hk_ => Or.elim hk_ (fun hs_ => fun e_ => Nat.not_le.2 hs_ (by rw [e_]; exact GW687.out)) (fun hn_ => (Kd.freshB (g := gb687) (o := .cells #[.int .i64 a0_0, .int .i64 a0_1, .int .i64 a0_2, .int .u64 a0_3, .int .u64 a0_4, .int .u64 a0_5] 37 (0, 0)) (by (with_reducible repeat (first | refine blk_drewN ?_ _ | refine blk_drew ?_ | refine blk_alloc ?_ _)); exact BK687.out) k_ hn_)))) (below_size (by repeat (first | (with_reducible first | exact HB.out | apply below_alloc | apply pw_below_drewN | apply below_drew1 | refine below_set ?_ GE687.out) | exact HB.out))))
     have n1_ := Aside0.mk (blk_below (g := gb687) (o := .cells #[.int .i64 a0_0, .int .i64 a0_1, .int .i64 a0_2, .int .u64 a0_3, .int .u64 a0_4, .int .u64 a0_5] 37 (0, 0)) (by (with_reducible repeat (first | refine blk_drewN ?_ _ | refine blk_drew ?_ | refine blk_alloc ?_ _)); exact BK687.out) hb)
     have n2_ := Aside0.mk (below_step (by repeat (first | (with_reducible first | exact HB.out | apply below_alloc | apply pw_below_drewN | apply below_drew1 | refine below_set ?_ GE687.out) | exact HB.out)) hb)
     clear BK687
     clear HB
     have HO704 := n0_
     have BK687 := n1_
     have HB := n2_
     clear n0_ n1_ n2_
     (try clear hb)
     (try clear hb2)
     (try clear hk)
     (try clear hi)
     (try clear ho0)
     obtain ⟨Ao89, co89, eo89⟩ := Kd.V_slice HO704.out
     (first | subst eo89 | (injection eo89 with f1_ f2_ f3_; have f4_ := f1_.symm; have f5_ := f3_.symm; clear f1_ f2_ f3_; subst f4_; subst f5_))
     refine hK.out _ _ ⟨(blk_cell BK687.out 0).trans rfl, (blk_cell BK687.out 1).trans rfl, (blk_cell BK687.out 2).trans rfl, (blk_cell BK687.out 3).trans rfl, (blk_cell BK687.out 4).trans rfl, (blk_cell BK687.out 5).trans rfl⟩ (fun hHeld => ?_)
     clear hK K
     refine norm_ (a' := ?_) ?_ ?_
     rotate_left
     ·show Act.put _ (some 108) _ = _
      simp only [Act.put, sA_, sB_, sC_, i64_w, i32_w]
      rfl
     refine one_ (i := 11) (N := some 112) #[true, true, true, true, true, true, true, true, true, true, true, true, false] rfl rfl (one_of HT_.out (by kernel_rfl)) (by decide) (fun K hK => ?_)
     refine goes_ Tryd.func36 (by kernel_rfl) rfl #[.agg #[.int .i64 a0_0, .int .i64 a0_1, .int .i64 a0_2, .int .u64 a0_3, .int .u64 a0_4, .int .u64 a0_5], .slice Ao89 t702.length co89, .slice A87 y705.length c87, .int .u64 18446744073709551615, .bool true] (by rfl) rfl rfl (by (try simp only [List.map_toArray, List.map_cons, List.map_nil]); first | done | (simp only [Ny705.out]; rfl) | rfl | (simp only [List.length_drop, List.length_take]; rfl)) ?_
     with_reducible refine (spec_Chained.calls kj28 a0_0 a0_1 a0_2 a0_3 a0_4 a0_5 (fun k_ => k_ ≠ gb687) _ _ t702 _ _ y705 18446744073709551615 true t709 _ ?side1 ?side2 ?side3 A46.out).mono ?_
     (case side1 => first | exact HO704.out | exact Kd.V_mono HO704.out (fun k_ hk_ => ⟨⟨hk_.1, hk_.2.1⟩, hk_.2.2⟩))
     (case side2 => repeat (first | exact (Kd.C_below HR708.out HB.out) | (with_reducible refine Kd.C_alloc ?_ _) | (with_reducible refine Kd.C_drewN ?_ _) | (with_reducible refine Kd.C_drew ?_)))
     (case side3 => exact HC708.out)
     rintro e w90 ⟨v710, rfl, ho0, hb⟩
     refine ⟨_, rfl, ?_⟩
     have n0_ := Aside0.mk (Kd.V_below (by (with_reducible repeat (first | apply Kd.V_alloc | apply Kd.V_drewN | apply Kd.V_drew)); exact HO704.out) hb)
     have n1_ := Aside0.mk (Kd.V_lower (Kd.V_mono (ok' := fun k_ => k_ ≠ gb687) ho0 (fun k_ hk_ => Or.elim hk_ (fun hs_ => hs_) (fun hn_ => (Kd.freshB (g := gb687) (o := .cells #[.int .i64 a0_0, .int .i64 a0_1, .int .i64 a0_2, .int .u64 a0_3, .int .u64 a0_4, .int .u64 a0_5] 37 (0, 0)) (by (with_reducible repeat (first | refine blk_drewN ?_ _ | refine blk_drew ?_ | refine blk_alloc ?_ _)); exact BK687.out) k_ hn_)))) (below_size (by repeat (first | (with_reducible first | exact HB.out | apply below_alloc | apply pw_below_drewN | apply below_drew1 | refine below_set ?_ GE687.out) | exact HB.out))))
     have n2_ := Aside0.mk (blk_below (g := gb687) (o := .cells #[.int .i64 a0_0, .int .i64 a0_1, .int .i64 a0_2, .int .u64 a0_3, .int .u64 a0_4, .int .u64 a0_5] 37 (0, 0)) (by (with_reducible repeat (first | refine blk_drewN ?_ _ | refine blk_drew ?_ | refine blk_alloc ?_ _)); exact BK687.out) hb)
     have n3_ := Aside0.mk (below_step (by repeat (first | (with_reducible first | exact HB.out | apply below_alloc | apply pw_below_drewN | apply below_drew1 | refine below_set ?_ GE687.out) | exact HB.out)) hb)
     clear HO704
     clear BK687
     clear HB
     have HO704 := n0_
     have HO711 := n1_
     have BK687 := n2_
     have HB := n3_
     clear n0_ n1_ n2_ n3_
     (try clear hb)
     (try clear hb2)
     (try clear hk)
     (try clear hi)
     (try clear ho0)
     refine hK.out _ _ ⟨(blk_cell BK687.out 0).trans rfl, (blk_cell BK687.out 1).trans rfl, (blk_cell BK687.out 2).trans rfl, (blk_cell BK687.out 3).trans rfl, (blk_cell BK687.out 4).trans rfl, (blk_cell BK687.out 5).trans rfl⟩ (fun hHeld => ?_)
     clear hK K
     refine norm_ (a' := ?_) ?_ ?_
     rotate_left
     ·show Act.put _ (some 112) _ = _
      simp only [Act.put, sA_, sB_, sC_, i64_w, i32_w]
      rfl
     refine pure_ (i := 12) (N := some 20) (v := ?_) (a' := ?_) #[true, true, true, true, true, true, true, true, true, true, true, true, true] rfl rfl (any_of HT_.out (by kernel_rfl)) (fun _ _ _ h => h) (Or.inl ⟨by rfl, ?_⟩) ?_ ?_
     rotate_left
     ·intro w'
      go_simp
      with_reducible rfl
     rotate_left
     ·simp only [Act.put, sA_, sB_, sC_, i64_w, i32_w]
      rfl
     refine done_ (done_of HT_.out (by kernel_rfl)) ?_
     try go_wp2
     have n0_ := Aside0.mk (Kd.V_drew HO704.out)
     have n1_ := Aside0.mk (Kd.V_drew HO711.out)
     have n2_ := Aside0.mk (blk_drew BK687.out)
     have n3_ := Aside0.mk (below_drew1 HB.out)
     clear HO704
     clear HO711
     clear BK687
     clear HB
     have HO704 := n0_
     have HO711 := n1_
     have BK687 := n2_
     have HB := n3_
     clear n0_ n1_ n2_ n3_
     have q92 : (t697 : Int) ≤ ((l3.length : Int) : Int) := of_decide_eq_true (by first | (with_reducible assumption) | assumption)
     obtain ⟨i092, hi092, _, hsz92, _⟩ := info_parts info42
     have hroom92 : l3.length ≤ c3 := HC3.out
     have hC92 : Kd.C (Kd.slice 5 (Kd.int .u8)) _ A3 l3.length l3 := HR3.out
     have hcut92 := cut_to (P := Tryd.prog) 38 42 .i64 Tryd.underlying38 hi092 A3 l3.length c3 t697 (of_decide_eq_true (by first | (with_reducible assumption) | assumption)) q92 hroom92
     have hr92 := Kd.C_take (m := (t697 : Int).toNat) hC92 (by omega)
     have hy92 : y698.length = (t697 : Int).toNat := (by rw [Ny712.out, List.length_take]; omega)
     rw [← Ny712.out] at hr92
     rw [← hy92] at hcut92
     have HR715 := Aside0.mk hr92
     have HC715 := Aside0.mk (show y698.length ≤ c3 from by omega)
     clear hr92 hC92 hroom92 hi092 hsz92
     have KY92 := Aside0.mk hy92
     clear hy92
     replace q92 := eq_true q92
     have q93 : (t697 : Int) ≤ ((l3.length : Int) : Int) := of_decide_eq_true (by first | (with_reducible assumption) | assumption)
     obtain ⟨i093, hi093, _, hsz93, _⟩ := info_parts info42
     have hroom93 : l3.length ≤ c3 := HC3.out
     have hC93 : Kd.C (Kd.slice 5 (Kd.int .u8)) _ A3 l3.length l3 := HR3.out
     have q093 : (0 : Int) ≤ (t697 : Int) := of_decide_eq_true (by first | (with_reducible assumption) | assumption)
     have hcut93 := cut_from (P := Tryd.prog) 38 42 .i64 Tryd.underlying38 hi093 1 hsz93 A3 l3.length c3 t697 q093 q93
     have hr93 := Kd.C_drop (m := (t697 : Int).toNat) (c := c3) hC93 (by omega) hroom93
     have hA93 : A87 = (if c3 = (t697 : Int).toNat then A3 else (A3 : Option Addr).map (·.add ((t697 : Int).toNat * 1))) := KA87.out
     have hc93 : c87 = c3 - (t697 : Int).toNat := KC87.out
     have hy93 : y705.length = l3.length - (t697 : Int).toNat := (by rw [Ny719.out, List.length_drop] <;> omega)
     rw [show (l3).drop (t697 : Int).toNat = y705 from Ny719.out.symm] at hr93
     replace hr93 : Kd.C (Kd.slice 5 (Kd.int .u8)) _ A87 y705.length y705 := (by rw [hA93]; exact hr93)
     rw [← hy93, ← hA93, ← hc93] at hcut93
     have HR722 := Aside0.mk hr93
     have HC722 := Aside0.mk (show y705.length ≤ c87 from by rw [hy93, hc93]; exact Nat.sub_le_sub_right hroom93 _)
     clear hr93 hC93 hroom93 hi093 hsz93 hc93
     have KY93 := Aside0.mk hy93
     have KA93 := Aside0.mk hA93
     clear hy93 hA93
     replace q93 := eq_true q93
     refine start_ (n := 13) (S := fun w' => w'.cell? ⟨gb687, 0, none⟩ = some (.int .i64 a0_0) ∧ w'.cell? ⟨gb687, 1, none⟩ = some (.int .i64 a0_1) ∧ w'.cell? ⟨gb687, 2, none⟩ = some (.int .i64 a0_2) ∧ w'.cell? ⟨gb687, 3, none⟩ = some (.int .u64 a0_3) ∧ w'.cell? ⟨gb687, 4, none⟩ = some (.int .u64 a0_4) ∧ w'.cell? ⟨gb687, 5, none⟩ = some (.int .u64 a0_5)) (ds := []) #[false, false, false, false, false, false, false, false, false, false, false, false, false] (by kernel_rfl) rfl rfl ⟨(blk_cell BK687.out 0).trans rfl, (blk_cell BK687.out 1).trans rfl, (blk_cell BK687.out 2).trans rfl, (blk_cell BK687.out 3).trans rfl, (blk_cell BK687.out 4).trans rfl, (blk_cell BK687.out 5).trans rfl⟩ (fun hHeld => ?_); refine with_tabW laws_FnVerifyConsistencyFar.tab16 laws_FnVerifyConsistencyFar.bits16 (fun HT_ HW_ => ?_)
     generalize w90.drew = w91 at HO704 HO711 BK687 HB HR715 HR722 hHeld ⊢
     refine pure_ (i := 2) (N := some 115) (v := ?_) (a' := ?_) #[false, false, true, false, false, false, false, false, false, false, false, false, false] rfl rfl (any_of HT_.out (by kernel_rfl)) (fun _ _ _ h => h) (Or.inl ⟨by rfl, ?_⟩) ?_ ?_
     rotate_left
     ·intro w'
      go_simp
      with_reducible rfl
     rotate_left
     ·simp only [Act.put, sA_, sB_, sC_, i64_w, i32_w]
      rfl
     refine pure_ (i := 3) (N := some 116) (v := ?_) (a' := ?_) #[false, false, true, true, false, false, false, false, false, false, false, false, false] rfl rfl (any_of HT_.out (by kernel_rfl)) (fun _ _ _ h => h) (Or.inl ⟨by rfl, ?_⟩) ?_ ?_
     rotate_left
     ·intro w'
      go_simp
      with_reducible rfl
     rotate_left
     ·simp only [Act.put, sA_, sB_, sC_, i64_w, i32_w]
      rfl
     refine pure_ (i := 4) (N := some 117) (v := ?_) (a' := ?_) #[false, false, true, true, true, false, false, false, false, false, false, false, false] rfl rfl (any_of HT_.out (by kernel_rfl)) (fun _ _ _ h => h) (Or.inl ⟨by rfl, ?_⟩) ?_ ?_
     rotate_left
     ·intro w'
      go_simp
      with_reducible rfl
     rotate_left
     ·simp only [Act.put, sA_, sB_, sC_, i64_w, i32_w]
      rfl
     refine pure_ (i := 5) (N := some 118) (v := ?_) (a' := ?_) #[false, false, true, true, true, true, false, false, false, false, false, false, false] rfl rfl (any_of HT_.out (by kernel_rfl)) (fun _ _ _ h => h) (Or.inl ⟨by rfl, ?_⟩) ?_ ?_
     rotate_left
     ·intro w'
      go_simp
      with_reducible rfl
     rotate_left
     ·simp only [Act.put, sA_, sB_, sC_, i64_w, i32_w]
      rfl
     refine pure_ (i := 6) (N := some 119) (v := ?_) (a' := ?_) #[false, false, true, true, true, true, true, false, false, false, false, false, false] rfl rfl (any_of HT_.out (by kernel_rfl)) (fun _ _ _ h => h) (Or.inl ⟨by rfl, ?_⟩) ?_ ?_
     rotate_left
     ·intro w'
      go_simp
      with_reducible rfl
     rotate_left
     ·simp only [Act.put, sA_, sB_, sC_, i64_w, i32_w]
      rfl
     refine pure_ (i := 8) (N := some 121) (v := ?_) (a' := ?_) #[false, false, true, true, true, true, true, false, true, false, false, false, false] rfl rfl (any_of HT_.out (by kernel_rfl)) (fun _ _ _ h => h) (Or.inl ⟨by rfl, ?_⟩) ?_ ?_
     rotate_left
     ·intro w'
      go_simp
      with_reducible rfl
     rotate_left
     ·simp only [Act.put, sA_, sB_, sC_, i64_w, i32_w]
      rfl
     refine pure_ (i := 9) (N := some 122) (v := ?_) (a' := ?_) #[false, false, true, true, true, true, true, false, true, true, false, false, false] rfl rfl (any_of HT_.out (by kernel_rfl)) (fun _ _ _ h => h) (Or.inl ⟨by rfl, ?_⟩) ?_ ?_
     rotate_left
     ·intro w'
      go_simp
      with_reducible rfl
     rotate_left
     ·simp only [Act.put, sA_, sB_, sC_, i64_w, i32_w]
      rfl
     refine pure_ (i := 10) (N := some 123) (v := ?_) (a' := ?_) #[false, false, true, true, true, true, true, false, true, true, true, false, false] rfl rfl (any_of HT_.out (by kernel_rfl)) (fun _ _ _ h => h) (Or.inl ⟨by rfl, ?_⟩) ?_ ?_
     rotate_left
     ·intro w'
      go_simp
      with_reducible rfl
     rotate_left
     ·simp only [Act.put, sA_, sB_, sC_, i64_w, i32_w]
      rfl
     refine take_ (i := 0) (N := some 113) (v := ?_) (a' := ?_) #[true, false, true, true, true, true, true, false, true, true, true, false, false] rfl rfl (take_ofW HT_.out HW_.out (by kernel_rfl)) (fun _ _ _ h => h) (Or.inl ⟨by rfl, ?_⟩) hHeld ?_ ?_
     rotate_left
     ·rintro w' ⟨s0, s1, s2, s3, s4, s5⟩
      go_simp
      with_reducible rfl
     rotate_left
     ·simp only [Act.put, sA_, sB_, sC_, i64_w, i32_w]
      rfl
     refine take_ (i := 1) (N := some 114) (v := ?_) (a' := ?_) #[true, true, true, true, true, true, true, false, true, true, true, false, false] rfl rfl (take_ofW HT_.out HW_.out (by kernel_rfl)) (fun _ _ _ h => h) (Or.inl ⟨by rfl, ?_⟩) hHeld ?_ ?_
     rotate_left
     ·rintro w' ⟨s0, s1, s2, s3, s4, s5⟩
      go_simp
      with_reducible rfl
     rotate_left
     ·simp only [Act.put, sA_, sB_, sC_, i64_w, i32_w]
      rfl
     refine one_ (i := 7) (N := some 120) #[true, true, true, true, true, true, true, true, true, true, true, false, false] rfl rfl (one_of HT_.out (by kernel_rfl)) (by decide) (fun K hK => ?_)
     refine goes_ Tryd.func36 (by kernel_rfl) rfl #[.agg #[.int .i64 a0_0, .int .i64 a0_1, .int .i64 a0_2, .int .u64 a0_3, .int .u64 a0_4, .int .u64 a0_5], .slice A4 l4.length c4, .slice A3 y698.length c3, .int .u64 ji37, .bool false] (by rfl) rfl rfl (by (try simp only [List.map_toArray, List.map_cons, List.map_nil]); first | done | (simp only [Ny712.out]; rfl) | (simp only [Ny712.out, hji37]; rfl) | (simp only [hji37]; rfl) | rfl | (simp only [List.length_drop, List.length_take]; rfl)) ?_
     with_reducible refine (spec_Chained.calls kj28 a0_0 a0_1 a0_2 a0_3 a0_4 a0_5 (fun k_ => k_ < w.heap.size) _ _ l4 _ _ y698 ji37 false t716 _ ?side1 ?side2 ?side3 A49.out).mono ?_
     (case side1 => exact Kd.V_mk HC4.out (Kd.F_below (Kd.C_F (Kd.heap_int .u8) HR4.out) (by repeat (first | (with_reducible first | exact HB.out | apply below_alloc | apply pw_below_drewN | apply below_drew1 | refine below_set ?_ GE687.out) | exact HB.out))))
     (case side2 => repeat (first | exact (Kd.C_below HR715.out HB.out) | (with_reducible refine Kd.C_alloc ?_ _) | (with_reducible refine Kd.C_drewN ?_ _) | (with_reducible refine Kd.C_drew ?_)))
     (case side3 => exact HC715.out)
     rintro e w94 ⟨v717, rfl, ho0, hb⟩
     refine ⟨_, rfl, ?_⟩
     have n0_ := Aside0.mk (Kd.V_below (by (with_reducible repeat (first | apply Kd.V_alloc | apply Kd.V_drewN | apply Kd.V_drew)); exact HO704.out) hb)
     have n1_ := Aside0.mk (Kd.V_below (by (with_reducible repeat (first | apply Kd.V_alloc | apply Kd.V_drewN | apply Kd.V_drew)); exact HO711.out) hb)
     have n2_ := Aside0.mk (Kd.V_lower (Kd.V_mono (ok' := fun k_ => k_ ≠ gb687) ho0 (fun k_ hk_ => Or.elim hk_ (fun hs_ => fun e_ => Nat.not_le.2 hs_ (by rw [e_]; exact GW687.out)) (fun hn_ => (Kd.freshB (g := gb687) (o := .cells #[.int .i64 a0_0, .int .i64 a0_1, .int .i64 a0_2, .int .u64 a0_3, .int .u64 a0_4, .int .u64 a0_5] 37 (0, 0)) (by (with_reducible repeat (first | refine blk_drewN ?_ _ | refine blk_drew ?_ | refine blk_alloc ?_ _)); exact BK687.out) k_ hn_)))) (below_size (by repeat (first | (with_reducible first | exact HB.out | apply below_alloc | apply pw_below_drewN | apply below_drew1 | refine below_set ?_ GE687.out) | exact HB.out))))
     have n3_ := Aside0.mk (blk_below (g := gb687) (o := .cells #[.int .i64 a0_0, .int .i64 a0_1, .int .i64 a0_2, .int .u64 a0_3, .int .u64 a0_4, .int .u64 a0_5] 37 (0, 0)) (by (with_reducible repeat (first | refine blk_drewN ?_ _ | refine blk_drew ?_ | refine blk_alloc ?_ _)); exact BK687.out) hb)
     have n4_ := Aside0.mk (below_step (by repeat (first | (with_reducible first | exact HB.out | apply below_alloc | apply pw_below_drewN | apply below_drew1 | refine below_set ?_ GE687.out) | exact HB.out)) hb)
     clear HO704
     clear HO711
     clear BK687
     clear HB
     have HO704 := n0_
     have HO711 := n1_
     have HO718 := n2_
     have BK687 := n3_
     have HB := n4_
     clear n0_ n1_ n2_ n3_ n4_
     (try clear hb)
     (try clear hb2)
     (try clear hk)
     (try clear hi)
     (try clear ho0)
     obtain ⟨Ao95, co95, eo95⟩ := Kd.V_slice HO718.out
     (first | subst eo95 | (injection eo95 with f1_ f2_ f3_; have f4_ := f1_.symm; have f5_ := f3_.symm; clear f1_ f2_ f3_; subst f4_; subst f5_))
     refine hK.out _ _ ⟨(blk_cell BK687.out 0).trans rfl, (blk_cell BK687.out 1).trans rfl, (blk_cell BK687.out 2).trans rfl, (blk_cell BK687.out 3).trans rfl, (blk_cell BK687.out 4).trans rfl, (blk_cell BK687.out 5).trans rfl⟩ (fun hHeld => ?_)
     clear hK K
     refine norm_ (a' := ?_) ?_ ?_
     rotate_left
     ·show Act.put _ (some 120) _ = _
      simp only [Act.put, sA_, sB_, sC_, i64_w, i32_w]
      rfl
     refine one_ (i := 11) (N := some 124) #[true, true, true, true, true, true, true, true, true, true, true, true, false] rfl rfl (one_of HT_.out (by kernel_rfl)) (by decide) (fun K hK => ?_)
     refine goes_ Tryd.func36 (by kernel_rfl) rfl #[.agg #[.int .i64 a0_0, .int .i64 a0_1, .int .i64 a0_2, .int .u64 a0_3, .int .u64 a0_4, .int .u64 a0_5], .slice Ao95 t716.length co95, .slice A87 y705.length c87, .int .u64 18446744073709551615, .bool true] (by rfl) rfl rfl (by (try simp only [List.map_toArray, List.map_cons, List.map_nil]); first | done | (simp only [Ny719.out]; rfl) | rfl | (simp only [List.length_drop, List.length_take]; rfl)) ?_
     with_reducible refine (spec_Chained.calls kj28 a0_0 a0_1 a0_2 a0_3 a0_4 a0_5 (fun k_ => k_ ≠ gb687) _ _ t716 _ _ y705 18446744073709551615 true t723 _ ?side1 ?side2 ?side3 A52.out).mono ?_
     (case side1 => first | exact HO718.out | exact Kd.V_mono HO718.out (fun k_ hk_ => ⟨⟨hk_.1, hk_.2.1⟩, hk_.2.2⟩))
     (case side2 => repeat (first | exact (Kd.C_below HR722.out HB.out) | (with_reducible refine Kd.C_alloc ?_ _) | (with_reducible refine Kd.C_drewN ?_ _) | (with_reducible refine Kd.C_drew ?_)))
     (case side3 => exact HC722.out)
     rintro e w96 ⟨v724, rfl, ho0, hb⟩
     refine ⟨_, rfl, ?_⟩
     have n0_ := Aside0.mk (Kd.V_below (by (with_reducible repeat (first | apply Kd.V_alloc | apply Kd.V_drewN | apply Kd.V_drew)); exact HO704.out) hb)
     have n1_ := Aside0.mk (Kd.V_below (by (with_reducible repeat (first | apply Kd.V_alloc | apply Kd.V_drewN | apply Kd.V_drew)); exact HO711.out) hb)
     have n2_ := Aside0.mk (Kd.V_below (by (with_reducible repeat (first | apply Kd.V_alloc | apply Kd.V_drewN | apply Kd.V_drew)); exact HO718.out) hb)
     have n3_ := Aside0.mk (Kd.V_lower (Kd.V_mono (ok' := fun k_ => k_ ≠ gb687) ho0 (fun k_ hk_ => Or.elim hk_ (fun hs_ => hs_) (fun hn_ => (Kd.freshB (g := gb687) (o := .cells #[.int .i64 a0_0, .int .i64 a0_1, .int .i64 a0_2, .int .u64 a0_3, .int .u64 a0_4, .int .u64 a0_5] 37 (0, 0)) (by (with_reducible repeat (first | refine blk_drewN ?_ _ | refine blk_drew ?_ | refine blk_alloc ?_ _)); exact BK687.out) k_ hn_)))) (below_size (by repeat (first | (with_reducible first | exact HB.out | apply below_alloc | apply pw_below_drewN | apply below_drew1 | refine below_set ?_ GE687.out) | exact HB.out))))
     have n4_ := Aside0.mk (blk_below (g := gb687) (o := .cells #[.int .i64 a0_0, .int .i64 a0_1, .int .i64 a0_2, .int .u64 a0_3, .int .u64 a0_4, .int .u64 a0_5] 37 (0, 0)) (by (with_reducible repeat (first | refine blk_drewN ?_ _ | refine blk_drew ?_ | refine blk_alloc ?_ _)); exact BK687.out) hb)
     have n5_ := Aside0.mk (below_step (by repeat (first | (with_reducible first | exact HB.out | apply below_alloc | apply pw_below_drewN | apply below_drew1 | refine below_set ?_ GE687.out) | exact HB.out)) hb)
     clear HO704
     clear HO711
     clear HO718
     clear BK687
     clear HB
     have HO704 := n0_
     have HO711 := n1_
     have HO718 := n2_
     have HO725 := n3_
     have BK687 := n4_
     have HB := n5_
     clear n0_ n1_ n2_ n3_ n4_ n5_
     (try clear hb)
     (try clear hb2)
     (try clear hk)
     (try clear hi)
     (try clear ho0)
     refine hK.out _ _ ⟨(blk_cell BK687.out 0).trans rfl, (blk_cell BK687.out 1).trans rfl, (blk_cell BK687.out 2).trans rfl, (blk_cell BK687.out 3).trans rfl, (blk_cell BK687.out 4).trans rfl, (blk_cell BK687.out 5).trans rfl⟩ (fun hHeld => ?_)
     clear hK K
     refine norm_ (a' := ?_) ?_ ?_
     rotate_left
     ·show Act.put _ (some 124) _ = _
      simp only [Act.put, sA_, sB_, sC_, i64_w, i32_w]
      rfl
     refine pure_ (i := 12) (N := some 21) (v := ?_) (a' := ?_) #[true, true, true, true, true, true, true, true, true, true, true, true, true] rfl rfl (any_of HT_.out (by kernel_rfl)) (fun _ _ _ h => h) (Or.inl ⟨by rfl, ?_⟩) ?_ ?_
     rotate_left
     ·intro w'
      go_simp
      with_reducible rfl
     rotate_left
     ·simp only [Act.put, sA_, sB_, sC_, i64_w, i32_w]
      rfl
     refine done_ (done_of HT_.out (by kernel_rfl)) ?_
     obtain ⟨Ao97, co97, eo97⟩ := Kd.V_slice HO711.out
     subst eo97
     try go_wp2_with (first | ((with_reducible refine gate_callee (f := 25) rfl ?_); refine goesL_ (some 127) rfl rfl Tryd.func25 (by kernel_rfl) rfl #[.slice Ao97 t709.length co97, .slice A4 l4.length c4] rfl (by (try simp only [List.map_toArray, List.map_cons, List.map_nil]); first | done | rfl | (simp only [List.length_drop, List.length_take]; rfl)) ?_; (with_reducible refine (spec_SameText.calls _ _ t709 _ _ l4 false _ ?side1 ?side2 ?side3 ?side4 A53.out).mono ?_); (case side1 => repeat (first | exact (Kd.V_reads' HO711.out).2.2 | (with_reducible refine Kd.C_alloc ?_ _) | (with_reducible refine Kd.C_drewN ?_ _) | (with_reducible refine Kd.C_drew ?_))); (case side2 => exact (Kd.V_reads' HO711.out).2.1); (case side3 => repeat (first | exact (Kd.C_below HR4.out HB.out) | (with_reducible refine Kd.C_alloc ?_ _) | (with_reducible refine Kd.C_drewN ?_ _) | (with_reducible refine Kd.C_drew ?_))); (case side4 => exact HC4.out); rintro e w' ⟨rfl, ⟨nd, rfl⟩⟩; refine ⟨_, rfl, ?_⟩))
     go_ret
     exact ⟨by first | rfl | (simp [errW_none, errW_some] <;> rfl) | (simp only [← hji34, ← hji37, ← hji39]; first | rfl | (simp [errW_none, errW_some] <;> rfl)) | (simp [*, errW_none, errW_some] <;> rfl), by repeat (first | (with_reducible first | exact HB.out | apply below_alloc | apply pw_below_drewN | apply below_drew1 | refine below_set ?_ GE687.out) | exact HB.out)⟩
    rw [if_neg c42] at H
    exact absurd H (by simp)
   rw [if_neg c41] at H
   exact absurd H (by simp)
  rw [if_neg c35] at H
  have c35b0 : (a1 == (ji34)) = false := beq_eq_false_iff_ne.mpr c35
  have c35b1 : (a1 != (ji34)) = true := bne_iff_ne.mpr c35
  by_cases c98 : 0 < (l3.length : Int)
  ·rw [if_pos c98] at H
   have c98b0 : decide (0 < (l3.length : Int)) = true := decide_eq_true c98
   have c98b1 : decide (0 < l3.length) = true := decide_eq_true (by omega)
   clear c98
   by_cases c99 : 1 ≤ (l3.length : Int)
   ·rw [if_pos c99] at H
    have c99b0 := eq_true c99
    have c99b1 : decide (1 ≤ (l3.length : Int)) = true := decide_eq_true c99
    clear c99
    obtain ⟨y729, hy729⟩ : ∃ y_ : List (List Int), y_ = (l3.drop 1) := ⟨_, rfl⟩
    replace H : ((spec_Inner.f kj28 (shr .u64 (IntKind.u64.wrap (a1 - 1)) x15_28) (IntKind.u64.wrap ((shr .u64 (IntKind.u64.wrap (a2 - 1)) x15_28) + 1))).bind fun t733 => (if 0 ≤ t733 then (if t733 ≤ (y729.length : Int) then ((spec_Chained.f kj28 a0_0 a0_1 a0_2 a0_3 a0_4 a0_5 (rd_L4 l3 0) (y729.take (t733 : Int).toNat) (shr .u64 (IntKind.u64.wrap (a1 - 1)) x15_28) true).bind fun t738 => ((spec_Chained.f kj28 a0_0 a0_1 a0_2 a0_3 a0_4 a0_5 t738 (y729.drop (t733 : Int).toNat) 18446744073709551615 true).bind fun t745 => ((spec_Chained.f kj28 a0_0 a0_1 a0_2 a0_3 a0_4 a0_5 (rd_L4 l3 0) (y729.take (t733 : Int).toNat) (shr .u64 (IntKind.u64.wrap (a1 - 1)) x15_28) false).bind fun t752 => ((spec_Chained.f kj28 a0_0 a0_1 a0_2 a0_3 a0_4 a0_5 t752 (y729.drop (t733 : Int).toNat) 18446744073709551615 true).bind fun t759 => ((spec_SameText.f t745 l4).bind fun t762 => (if t762 = true then ((spec_SameText.f t759 l5).bind fun t763 => (if t763 = true then (some (t690 == 0)) else (some (t690 == 1)))) else (some (t690 == 1)))))))) else (none)) else (none))) = some r := by first | (rw [hy729]; with_reducible exact H) | (have H2_ := (Option.bind_some _ _).symm.trans H; rw [hy729]; with_reducible exact H2_) | (have H2_ := (Option.bind_some _ _).symm.trans H; with_reducible exact H2_) | with_reducible exact H | (rw [hy729]; exact H) | exact H
    have Ny729 := Aside0.mk hy729
    clear hy729
    have c100b0 := eq_true (of_decide_eq_true (by first | (with_reducible assumption) | assumption) : 0 ≤ x15_28)
    obtain ⟨ji101, hji101⟩ : ∃ j_ : Int, (shr .u64 (IntKind.u64.wrap (a1 - 1)) x15_28) = j_ := ⟨_, rfl⟩
    (try (have e_ : ji101 = ji37 := hji101.symm.trans hji37; subst e_))
    replace H : ((spec_Inner.f kj28 (ji101) (IntKind.u64.wrap ((shr .u64 (IntKind.u64.wrap (a2 - 1)) x15_28) + 1))).bind fun t733 => (if 0 ≤ t733 then (if t733 ≤ (y729.length : Int) then ((spec_Chained.f kj28 a0_0 a0_1 a0_2 a0_3 a0_4 a0_5 (rd_L4 l3 0) (y729.take (t733 : Int).toNat) (ji101) true).bind fun t738 => ((spec_Chained.f kj28 a0_0 a0_1 a0_2 a0_3 a0_4 a0_5 t738 (y729.drop (t733 : Int).toNat) 18446744073709551615 true).bind fun t745 => ((spec_Chained.f kj28 a0_0 a0_1 a0_2 a0_3 a0_4 a0_5 (rd_L4 l3 0) (y729.take (t733 : Int).toNat) (ji101) false).bind fun t752 => ((spec_Chained.f kj28 a0_0 a0_1 a0_2 a0_3 a0_4 a0_5 t752 (y729.drop (t733 : Int).toNat) 18446744073709551615 true).bind fun t759 => ((spec_SameText.f t745 l4).bind fun t762 => (if t762 = true then ((spec_SameText.f t759 l5).bind fun t763 => (if t763 = true then (some (t690 == 0)) else (some (t690 == 1)))) else (some (t690 == 1)))))))) else (none)) else (none))) = some r := by first | (rw [hji101] at H; exact H) | (simp only [hji101] at H ⊢; exact H)
    have hji101_ : ((IntKind.u64.wrap (a1 - 1)) / 2 ^ min x15_28.toNat 64) = ji101 := hji101
    have hji101z : x15_28 ≤ 64 → ((IntKind.u64.wrap (a1 - 1)) / 2 ^ x15_28.toNat) = ji101 := shr_small hji101
    have c102b0 := eq_true (of_decide_eq_true (by first | (with_reducible assumption) | assumption) : 0 ≤ x15_28)
    obtain ⟨ji103, hji103⟩ : ∃ j_ : Int, (shr .u64 (IntKind.u64.wrap (a2 - 1)) x15_28) = j_ := ⟨_, rfl⟩
    (try (have e_ : ji103 = ji39 := hji103.symm.trans hji39; subst e_))
    replace H : ((spec_Inner.f kj28 (ji101) (IntKind.u64.wrap ((ji103) + 1))).bind fun t733 => (if 0 ≤ t733 then (if t733 ≤ (y729.length : Int) then ((spec_Chained.f kj28 a0_0 a0_1 a0_2 a0_3 a0_4 a0_5 (rd_L4 l3 0) (y729.take (t733 : Int).toNat) (ji101) true).bind fun t738 => ((spec_Chained.f kj28 a0_0 a0_1 a0_2 a0_3 a0_4 a0_5 t738 (y729.drop (t733 : Int).toNat) 18446744073709551615 true).bind fun t745 => ((spec_Chained.f kj28 a0_0 a0_1 a0_2 a0_3 a0_4 a0_5 (rd_L4 l3 0) (y729.take (t733 : Int).toNat) (ji101) false).bind fun t752 => ((spec_Chained.f kj28 a0_0 a0_1 a0_2 a0_3 a0_4 a0_5 t752 (y729.drop (t733 : Int).toNat) 18446744073709551615 true).bind fun t759 => ((spec_SameText.f t745 l4).bind fun t762 => (if t762 = true then ((spec_SameText.f t759 l5).bind fun t763 => (if t763 = true then (some (t690 == 0)) else (some (t690 == 1)))) else (some (t690 == 1)))))))) else (none)) else (none))) = some r := by first | (rw [hji103] at H; exact H) | (simp only [hji103] at H ⊢; exact H)
    have hji103_ : ((IntKind.u64.wrap (a2 - 1)) / 2 ^ min x15_28.toNat 64) = ji103 := hji103
    have hji103z : x15_28 ≤ 64 → ((IntKind.u64.wrap (a2 - 1)) / 2 ^ x15_28.toNat) = ji103 := shr_small hji103
    replace H := Option.bind_eq_some_iff.mp H
    obtain ⟨t733, A1040, H⟩ := H
    replace H : (if 0 ≤ t733 then (if t733 ≤ (y729.length : Int) then ((spec_Chained.f kj28 a0_0 a0_1 a0_2 a0_3 a0_4 a0_5 (rd_L4 l3 0) (y729.take (t733 : Int).toNat) (ji101) true).bind fun t738 => ((spec_Chained.f kj28 a0_0 a0_1 a0_2 a0_3 a0_4 a0_5 t738 (y729.drop (t733 : Int).toNat) 18446744073709551615 true).bind fun t745 => ((spec_Chained.f kj28 a0_0 a0_1 a0_2 a0_3 a0_4 a0_5 (rd_L4 l3 0) (y729.take (t733 : Int).toNat) (ji101) false).bind fun t752 => ((spec_Chained.f kj28 a0_0 a0_1 a0_2 a0_3 a0_4 a0_5 t752 (y729.drop (t733 : Int).toNat) 18446744073709551615 true).bind fun t759 => ((spec_SameText.f t745 l4).bind fun t762 => (if t762 = true then ((spec_SameText.f t759 l5).bind fun t763 => (if t763 = true then (some (t690 == 0)) else (some (t690 == 1)))) else (some (t690 == 1)))))))) else (none)) else (none)) = some r := H
    have A104 := Aside0.mk A1040
    clear A1040
    by_cases c105 : 0 ≤ t733
    ·rw [if_pos c105] at H
     have c105b0 := eq_true c105
     have c105b1 : decide (0 ≤ t733) = true := decide_eq_true c105
     clear c105
     by_cases c106 : t733 ≤ (y729.length : Int)
     ·rw [if_pos c106] at H
      have c106b0 := eq_true c106
      have c106b1 : decide (t733 ≤ (y729.length : Int)) = true := decide_eq_true c106
      clear c106
      obtain ⟨y734, hy734⟩ : ∃ y_ : List (List Int), y_ = (y729.take (t733 : Int).toNat) := ⟨_, rfl⟩
      replace H : ((spec_Chained.f kj28 a0_0 a0_1 a0_2 a0_3 a0_4 a0_5 (rd_L4 l3 0) y734 (ji101) true).bind fun t738 => ((spec_Chained.f kj28 a0_0 a0_1 a0_2 a0_3 a0_4 a0_5 t738 (y729.drop (t733 : Int).toNat) 18446744073709551615 true).bind fun t745 => ((spec_Chained.f kj28 a0_0 a0_1 a0_2 a0_3 a0_4 a0_5 (rd_L4 l3 0) (y729.take (t733 : Int).toNat) (ji101) false).bind fun t752 => ((spec_Chained.f kj28 a0_0 a0_1 a0_2 a0_3 a0_4 a0_5 t752 (y729.drop (t733 : Int).toNat) 18446744073709551615 true).bind fun t759 => ((spec_SameText.f t745 l4).bind fun t762 => (if t762 = true then ((spec_SameText.f t759 l5).bind fun t763 => (if t763 = true then (some (t690 == 0)) else (some (t690 == 1)))) else (some (t690 == 1)))))))) = some r := by first | (rw [hy734]; with_reducible exact H) | (have H2_ := (Option.bind_some _ _).symm.trans H; rw [hy734]; with_reducible exact H2_) | (have H2_ := (Option.bind_some _ _).symm.trans H; with_reducible exact H2_) | with_reducible exact H | (rw [hy734]; exact H) | exact H
      have Ny734 := Aside0.mk hy734
      clear hy734
      replace H := Option.bind_eq_some_iff.mp H
      obtain ⟨t738, A1070, H⟩ := H
      replace H : ((spec_Chained.f kj28 a0_0 a0_1 a0_2 a0_3 a0_4 a0_5 t738 (y729.drop (t733 : Int).toNat) 18446744073709551615 true).bind fun t745 => ((spec_Chained.f kj28 a0_0 a0_1 a0_2 a0_3 a0_4 a0_5 (rd_L4 l3 0) (y729.take (t733 : Int).toNat) (ji101) false).bind fun t752 => ((spec_Chained.f kj28 a0_0 a0_1 a0_2 a0_3 a0_4 a0_5 t752 (y729.drop (t733 : Int).toNat) 18446744073709551615 true).bind fun t759 => ((spec_SameText.f t745 l4).bind fun t762 => (if t762 = true then ((spec_SameText.f t759 l5).bind fun t763 => (if t763 = true then (some (t690 == 0)) else (some (t690 == 1)))) else (some (t690 == 1))))))) = some r := H
      have A107 := Aside0.mk A1070
      clear A1070
      have c108b0 := eq_true (of_decide_eq_true (by first | (with_reducible assumption) | assumption) : 0 ≤ t733)
      have c109b0 := eq_true (of_decide_eq_true (by first | (with_reducible assumption) | assumption) : t733 ≤ (y729.length : Int))
      obtain ⟨y741, hy741⟩ : ∃ y_ : List (List Int), y_ = (y729.drop (t733 : Int).toNat) := ⟨_, rfl⟩
      replace H : ((spec_Chained.f kj28 a0_0 a0_1 a0_2 a0_3 a0_4 a0_5 t738 y741 18446744073709551615 true).bind fun t745 => ((spec_Chained.f kj28 a0_0 a0_1 a0_2 a0_3 a0_4 a0_5 (rd_L4 l3 0) (y729.take (t733 : Int).toNat) (ji101) false).bind fun t752 => ((spec_Chained.f kj28 a0_0 a0_1 a0_2 a0_3 a0_4 a0_5 t752 (y729.drop (t733 : Int).toNat) 18446744073709551615 true).bind fun t759 => ((spec_SameText.f t745 l4).bind fun t762 => (if t762 = true then ((spec_SameText.f t759 l5).bind fun t763 => (if t763 = true then (some (t690 == 0)) else (some (t690 == 1)))) else (some (t690 == 1))))))) = some r := by first | (rw [hy741]; with_reducible exact H) | (have H2_ := (Option.bind_some _ _).symm.trans H; rw [hy741]; with_reducible exact H2_) | (have H2_ := (Option.bind_some _ _).symm.trans H; with_reducible exact H2_) | with_reducible exact H | (rw [hy741]; exact H) | exact H
      have Ny741 := Aside0.mk hy741
      clear hy741
      replace H := Option.bind_eq_some_iff.mp H
      obtain ⟨t745, A1100, H⟩ := H
      replace H : ((spec_Chained.f kj28 a0_0 a0_1 a0_2 a0_3 a0_4 a0_5 (rd_L4 l3 0) (y729.take (t733 : Int).toNat) (ji101) false).bind fun t752 => ((spec_Chained.f kj28 a0_0 a0_1 a0_2 a0_3 a0_4 a0_5 t752 (y729.drop (t733 : Int).toNat) 18446744073709551615 true).bind fun t759 => ((spec_SameText.f t745 l4).bind fun t762 => (if t762 = true then ((spec_SameText.f t759 l5).bind fun t763 => (if t763 = true then (some (t690 == 0)) else (some (t690 == 1)))) else (some (t690 == 1)))))) = some r := H
      have A110 := Aside0.mk A1100
      clear A1100
      have c111b0 := eq_true (of_decide_eq_true (by first | (with_reducible assumption) | assumption) : 0 ≤ t733)
      have c112b0 := eq_true (of_decide_eq_true (by first | (with_reducible assumption) | assumption) : t733 ≤ (y729.length : Int))
      have hy748 : y734 = (y729.take (t733 : Int).toNat) := Ny734.out
      replace H : ((spec_Chained.f kj28 a0_0 a0_1 a0_2 a0_3 a0_4 a0_5 (rd_L4 l3 0) y734 (ji101) false).bind fun t752 => ((spec_Chained.f kj28 a0_0 a0_1 a0_2 a0_3 a0_4 a0_5 t752 (y729.drop (t733 : Int).toNat) 18446744073709551615 true).bind fun t759 => ((spec_SameText.f t745 l4).bind fun t762 => (if t762 = true then ((spec_SameText.f t759 l5).bind fun t763 => (if t763 = true then (some (t690 == 0)) else (some (t690 == 1)))) else (some (t690 == 1)))))) = some r := by first | (rw [hy748]; with_reducible exact H) | (have H2_ := (Option.bind_some _ _).symm.trans H; rw [hy748]; with_reducible exact H2_) | (have H2_ := (Option.bind_some _ _).symm.trans H; with_reducible exact H2_) | with_reducible exact H | (rw [hy748]; exact H) | exact H
      have Ny748 := Aside0.mk hy748
      clear hy748
      replace H := Option.bind_eq_some_iff.mp H
      obtain ⟨t752, A1130, H⟩ := H
      replace H : ((spec_Chained.f kj28 a0_0 a0_1 a0_2 a0_3 a0_4 a0_5 t752 (y729.drop (t733 : Int).toNat) 18446744073709551615 true).bind fun t759 => ((spec_SameText.f t745 l4).bind fun t762 => (if t762 = true then ((spec_SameText.f t759 l5).bind fun t763 => (if t763 = true then (some (t690 == 0)) else (some (t690 == 1)))) else (some (t690 == 1))))) = some r := H
      have A113 := Aside0.mk A1130
      clear A1130
      have c114b0 := eq_true (of_decide_eq_true (by first | (with_reducible assumption) | assumption) : 0 ≤ t733)
      have c115b0 := eq_true (of_decide_eq_true (by first | (with_reducible assumption) | assumption) : t733 ≤ (y729.length : Int))
      have hy755 : y741 = (y729.drop (t733 : Int).toNat) := Ny741.out
      replace H : ((spec_Chained.f kj28 a0_0 a0_1 a0_2 a0_3 a0_4 a0_5 t752 y741 18446744073709551615 true).bind fun t759 => ((spec_SameText.f t745 l4).bind fun t762 => (if t762 = true then ((spec_SameText.f t759 l5).bind fun t763 => (if t763 = true then (some (t690 == 0)) else (some (t690 == 1)))) else (some (t690 == 1))))) = some r := by first | (rw [hy755]; with_reducible exact H) | (have H2_ := (Option.bind_some _ _).symm.trans H; rw [hy755]; with_reducible exact H2_) | (have H2_ := (Option.bind_some _ _).symm.trans H; with_reducible exact H2_) | with_reducible exact H | (rw [hy755]; exact H) | exact H
      have Ny755 := Aside0.mk hy755
      clear hy755
      replace H := Option.bind_eq_some_iff.mp H
      obtain ⟨t759, A1160, H⟩ := H
      replace H : ((spec_SameText.f t745 l4).bind fun t762 => (if t762 = true then ((spec_SameText.f t759 l5).bind fun t763 => (if t763 = true then (some (t690 == 0)) else (some (t690 == 1)))) else (some (t690 == 1)))) = some r := H
      have A116 := Aside0.mk A1160
      clear A1160
      replace H := Option.bind_eq_some_iff.mp H
      obtain ⟨t762, A1170, H⟩ := H
      replace H : (if t762 = true then ((spec_SameText.f t759 l5).bind fun t763 => (if t763 = true then (some (t690 == 0)) else (some (t690 == 1)))) else (some (t690 == 1))) = some r := H
      have A117 := Aside0.mk A1170
      clear A1170
      by_cases c118 : t762 = true
      ·subst c118
       have H1 : ((spec_SameText.f t759 l5).bind fun t763 => (if t763 = true then (some (t690 == 0)) else (some (t690 == 1)))) = some r := by rw [if_pos rfl] at H; exact H
       clear H
       have H := H1
       clear H1
       replace H := Option.bind_eq_some_iff.mp H
       obtain ⟨t763, A1190, H⟩ := H
       replace H : (if t763 = true then (some (t690 == 0)) else (some (t690 == 1))) = some r := H
       have A119 := Aside0.mk A1190
       clear A1190
       by_cases c120 : t763 = true
       ·subst c120
        have H1 : (some (t690 == 0)) = some r := by rw [if_pos rfl] at H; exact H
        clear H
        have H := H1
        clear H1
        obtain rfl := Option.some.inj H
        try go_wp2
        have n0_ := Aside0.mk (blk_drew BK687.out)
        have n1_ := Aside0.mk (below_drew1 HB.out)
        clear BK687
        clear HB
        have BK687 := n0_
        have HB := n1_
        clear n0_ n1_
        have p728 : 0 ≤ (0 : Int) := (by omega)
        have q728 : 0 < (l3.length : Int) := of_decide_eq_true (by first | (with_reducible assumption) | assumption)
        obtain ⟨ad728, A728_0, c728_0, e728, hx728_0, hl728_0, hi728_0⟩ := at_L4 HR3.out 0 p728 q728
        have hw728_0 := hx728_0
        (try rw [show ((0 : Int)).toNat = 0 from rfl] at hw728_0)
        (try rw [show 0 * 1 = 0 from rfl] at hw728_0)
        (try rw [Addr.add_zero'] at hw728_0)
        cases e728
        have qi728 : (0 < l3.length) = True := eq_true (by omega)
        (try rw [show ((0 : Int)).toNat = 0 from rfl] at hx728_0)
        (try rw [Addr.add_zero'] at hx728_0)
        replace hx728_0 := (HB.out.cell (World.block_lt_of_cell? w _ hx728_0)).trans hx728_0
        have HR728_0 := Aside0.mk hi728_0
        have HC728_0 := Aside0.mk hl728_0
        clear hi728_0 hl728_0
        replace p728 := eq_true p728
        replace q728 := eq_true q728
        have q122 : (1 : Int) ≤ ((l3.length : Int) : Int) := of_decide_eq_true (by first | (with_reducible assumption) | assumption)
        obtain ⟨i0122, hi0122, _, hsz122, _⟩ := info_parts info42
        have hroom122 : l3.length ≤ c3 := HC3.out
        have hC122 : Kd.C (Kd.slice 5 (Kd.int .u8)) _ (some ad728) l3.length l3 := HR3.out
        have hcut122 := cut_from (P := Tryd.prog) 38 42 .i64 Tryd.underlying38 hi0122 1 hsz122 (some ad728) l3.length c3 1 (by omega) q122
        have hr122 := Kd.C_drop (m := (1 : Int).toNat) (c := c3) hC122 (by omega) hroom122
        obtain ⟨A122, hA122⟩ : ∃ A1q_, A1q_ = (if c3 = (1 : Int).toNat then (some ad728) else ((some ad728) : Option Addr).map (·.add ((1 : Int).toNat * 1))) := ⟨_, rfl⟩
        obtain ⟨c122, hc122⟩ : ∃ c1q_, c1q_ = c3 - (1 : Int).toNat := ⟨_, rfl⟩
        have hy122 : y729.length = l3.length - (1 : Int).toNat := (by rw [Ny729.out, List.length_drop] <;> omega)
        rw [show (l3).drop (1 : Int).toNat = y729 from Ny729.out.symm] at hr122
        replace hr122 : Kd.C (Kd.slice 5 (Kd.int .u8)) _ A122 y729.length y729 := (by rw [hA122]; exact hr122)
        rw [← hy122, ← hA122, ← hc122] at hcut122
        have HR732 := Aside0.mk hr122
        have HC732 := Aside0.mk (show y729.length ≤ c122 from by rw [hy122, hc122]; exact Nat.sub_le_sub_right hroom122 _)
        clear hr122 hC122 hroom122 hi0122 hsz122
        have KC122 := Aside0.mk hc122
        clear hc122
        have KY122 := Aside0.mk hy122
        have KA122 := Aside0.mk hA122
        clear hy122 hA122
        replace q122 := eq_true q122
        refine start_ (n := 7) (S := fun w' => w'.cell? ad728 = some (.slice A728_0 (rd_L4 l3 0).length c728_0)) (ds := []) #[false, false, false, false, false, false, false] (by kernel_rfl) rfl rfl (((HB.out.cell (World.block_lt_of_cell? w _ hw728_0)).trans hw728_0)) (fun hHeld => ?_)
        generalize wc.drew = w121 at BK687 HB HR728_0 HR732 hx728_0 hHeld ⊢
        refine pure_ (i := 0) (N := some 85) (v := ?_) (a' := ?_) #[true, false, false, false, false, false, false] rfl rfl (by kernel_rfl) (fun _ _ _ h => h) (Or.inl ⟨by rfl, ?_⟩) ?_ ?_
        rotate_left
        ·intro w'
         go_simp
         with_reducible rfl
        rotate_left
        ·simp only [Act.put, sA_, sB_, sC_, i64_w, i32_w]
         rfl
        refine pure_ (i := 1) (N := some 86) (v := ?_) (a' := ?_) #[true, true, false, false, false, false, false] rfl rfl (by kernel_rfl) (fun _ _ _ h => h) (Or.inl ⟨by rfl, ?_⟩) ?_ ?_
        rotate_left
        ·intro w'
         go_simp
         with_reducible rfl
        rotate_left
        ·simp only [Act.put, sA_, sB_, sC_, i64_w, i32_w]
         rfl
        refine pure_ (i := 3) (N := some 88) (v := ?_) (a' := ?_) #[true, true, false, true, false, false, false] rfl rfl (by kernel_rfl) (fun _ _ _ h => h) (Or.inl ⟨by rfl, ?_⟩) ?_ ?_
        rotate_left
        ·intro w'
         go_simp
         with_reducible rfl
        rotate_left
        ·simp only [Act.put, sA_, sB_, sC_, i64_w, i32_w]
         rfl
        refine pure_ (i := 4) (N := some 89) (v := ?_) (a' := ?_) #[true, true, false, true, true, false, false] rfl rfl (by kernel_rfl) (fun _ _ _ h => h) (Or.inl ⟨by rfl, ?_⟩) ?_ ?_
        rotate_left
        ·intro w'
         go_simp
         with_reducible rfl
        rotate_left
        ·simp only [Act.put, sA_, sB_, sC_, i64_w, i32_w]
         rfl
        refine take_ (i := 2) (N := some 87) (v := ?_) (a' := ?_) #[true, true, true, true, true, false, false] rfl rfl (by kernel_rfl) (fun _ _ _ h => h) (Or.inl ⟨by rfl, ?_⟩) hHeld ?_ ?_
        rotate_left
        ·intro w' s0
         go_simp
         with_reducible rfl
        rotate_left
        ·simp only [Act.put, sA_, sB_, sC_, i64_w, i32_w]
         rfl
        refine pure_ (i := 5) (N := some 16) (v := ?_) (a' := ?_) #[true, true, true, true, true, true, false] rfl rfl (by kernel_rfl) (fun _ _ _ h => h) (Or.inl ⟨by rfl, ?_⟩) ?_ ?_
        rotate_left
        ·intro w'
         go_simp
         with_reducible rfl
        rotate_left
        ·simp only [Act.put, sA_, sB_, sC_, i64_w, i32_w]
         rfl
        refine pure_ (i := 6) (N := some 17) (v := ?_) (a' := ?_) #[true, true, true, true, true, true, true] rfl rfl (by kernel_rfl) (fun _ _ _ h => h) (Or.inl ⟨by rfl, ?_⟩) ?_ ?_
        rotate_left
        ·intro w'
         go_simp
         with_reducible rfl
        rotate_left
        ·simp only [Act.put, sA_, sB_, sC_, i64_w, i32_w]
         rfl
        refine done_ (by kernel_rfl) ?_
        try go_wp2_with (first | ((with_reducible refine gate_callee (f := 35) rfl ?_); refine goesL_ (some 100) rfl rfl Tryd.func35 (by kernel_rfl) rfl #[.int .u64 ji101, .int .u64 (IntKind.u64.wrap ((ji103) + 1))] rfl (by (try simp only [List.map_toArray, List.map_cons, List.map_nil]); first | done | (simp only [hji101, hji103]; rfl) | rfl | (simp only [List.length_drop, List.length_take]; rfl)) ?_; (with_reducible refine (spec_Inner.calls kj28 ji101 (IntKind.u64.wrap ((ji103) + 1)) t733 _ A104.out).mono ?_); rintro e w' ⟨rfl, ⟨nd, rfl⟩⟩; refine ⟨_, rfl, ?_⟩))
        (try (rw [drewN_self w121]; generalize hq_ : World.drewN w121 _ = w121; have n0_ : Aside0 (w121.heap[gb687]? = some (.cells #[.int .i64 a0_0, .int .i64 a0_1, .int .i64 a0_2, .int .u64 a0_3, .int .u64 a0_4, .int .u64 a0_5] 37 (0, 0))) := ⟨by rw [← hq_]; exact (by (with_reducible repeat (first | refine blk_drewN ?_ _ | refine blk_drew ?_ | refine blk_alloc ?_ _)); exact BK687.out)⟩; have n1_ : Aside0 (Below w.heap.size w w121) := ⟨by rw [← hq_]; exact (by repeat (first | (with_reducible first | exact HB.out | apply below_alloc | apply pw_below_drewN | apply below_drew1 | refine below_set ?_ GE687.out) | exact HB.out))⟩; clear BK687 HB hq_; have BK687 := n0_; have HB := n1_; clear n0_ n1_))
        have n0_ := Aside0.mk (blk_drew BK687.out)
        have n1_ := Aside0.mk (below_drew1 HB.out)
        clear BK687
        clear HB
        have BK687 := n0_
        have HB := n1_
        clear n0_ n1_
        have q124 : (t733 : Int) ≤ ((y729.length : Int) : Int) := of_decide_eq_true (by first | (with_reducible assumption) | assumption)
        obtain ⟨i0124, hi0124, _, hsz124, _⟩ := info_parts info42
        have hroom124 : y729.length ≤ c122 := HC732.out
        have hC124 : Kd.C (Kd.slice 5 (Kd.int .u8)) _ A122 y729.length y729 := HR732.out
        have hcut124 := cut_to (P := Tryd.prog) 38 42 .i64 Tryd.underlying38 hi0124 A122 y729.length c122 t733 (of_decide_eq_true (by first | (with_reducible assumption) | assumption)) q124 hroom124
        have hr124 := Kd.C_take (m := (t733 : Int).toNat) hC124 (by omega)
        have hy124 : y734.length = (t733 : Int).toNat := (by rw [Ny734.out, List.length_take]; omega)
        rw [← Ny734.out] at hr124
        rw [← hy124] at hcut124
        have HR737 := Aside0.mk hr124
        have HC737 := Aside0.mk (show y734.length ≤ c122 from by omega)
        clear hr124 hC124 hroom124 hi0124 hsz124
        have KY124 := Aside0.mk hy124
        clear hy124
        replace q124 := eq_true q124
        have q125 : (t733 : Int) ≤ ((y729.length : Int) : Int) := of_decide_eq_true (by first | (with_reducible assumption) | assumption)
        obtain ⟨i0125, hi0125, _, hsz125, _⟩ := info_parts info42
        have hroom125 : y729.length ≤ c122 := HC732.out
        have hC125 : Kd.C (Kd.slice 5 (Kd.int .u8)) _ A122 y729.length y729 := HR732.out
        have q0125 : (0 : Int) ≤ (t733 : Int) := of_decide_eq_true (by first | (with_reducible assumption) | assumption)
        have hcut125 := cut_from (P := Tryd.prog) 38 42 .i64 Tryd.underlying38 hi0125 1 hsz125 A122 y729.length c122 t733 q0125 q125
        have hr125 := Kd.C_drop (m := (t733 : Int).toNat) (c := c122) hC125 (by omega) hroom125
        obtain ⟨A125, hA125⟩ : ∃ A1q_, A1q_ = (if c122 = (t733 : Int).toNat then A122 else (A122 : Option Addr).map (·.add ((t733 : Int).toNat * 1))) := ⟨_, rfl⟩
        obtain ⟨c125, hc125⟩ : ∃ c1q_, c1q_ = c122 - (t733 : Int).toNat := ⟨_, rfl⟩
        have hy125 : y741.length = y729.length - (t733 : Int).toNat := (by rw [Ny741.out, List.length_drop] <;> omega)
        rw [show (y729).drop (t733 : Int).toNat = y741 from Ny741.out.symm] at hr125
        replace hr125 : Kd.C (Kd.slice 5 (Kd.int .u8)) _ A125 y741.length y741 := (by rw [hA125]; exact hr125)
        rw [← hy125, ← hA125, ← hc125] at hcut125
        have HR744 := Aside0.mk hr125
        have HC744 := Aside0.mk (show y741.length ≤ c125 from by rw [hy125, hc125]; exact Nat.sub_le_sub_right hroom125 _)
        clear hr125 hC125 hroom125 hi0125 hsz125
        have KC125 := Aside0.mk hc125
        clear hc125
        have KY125 := Aside0.mk hy125
        have KA125 := Aside0.mk hA125
        clear hy125 hA125
        replace q125 := eq_true q125
        refine start_ (n := 13) (S := fun w' => w'.cell? ⟨gb687, 0, none⟩ = some (.int .i64 a0_0) ∧ w'.cell? ⟨gb687, 1, none⟩ = some (.int .i64 a0_1) ∧ w'.cell? ⟨gb687, 2, none⟩ = some (.int .i64 a0_2) ∧ w'.cell? ⟨gb687, 3, none⟩ = some (.int .u64 a0_3) ∧ w'.cell? ⟨gb687, 4, none⟩ = some (.int .u64 a0_4) ∧ w'.cell? ⟨gb687, 5, none⟩ = some (.int .u64 a0_5)) (ds := []) #[false, false, false, false, false, false, false, false, false, false, false, false, false] (by kernel_rfl) rfl rfl ⟨(blk_cell BK687.out 0).trans rfl, (blk_cell BK687.out 1).trans rfl, (blk_cell BK687.out 2).trans rfl, (blk_cell BK687.out 3).trans rfl, (blk_cell BK687.out 4).trans rfl, (blk_cell BK687.out 5).trans rfl⟩ (fun hHeld => ?_); refine with_tabW laws_FnVerifyConsistencyFar.tab15 laws_FnVerifyConsistencyFar.bits15 (fun HT_ HW_ => ?_)
        generalize w121.drew = w123 at BK687 HB HR737 HR744 hHeld ⊢
        refine pure_ (i := 2) (N := some 103) (v := ?_) (a' := ?_) #[false, false, true, false, false, false, false, false, false, false, false, false, false] rfl rfl (any_of HT_.out (by kernel_rfl)) (fun _ _ _ h => h) (Or.inl ⟨by rfl, ?_⟩) ?_ ?_
        rotate_left
        ·intro w'
         go_simp
         with_reducible rfl
        rotate_left
        ·simp only [Act.put, sA_, sB_, sC_, i64_w, i32_w]
         rfl
        refine pure_ (i := 3) (N := some 104) (v := ?_) (a' := ?_) #[false, false, true, true, false, false, false, false, false, false, false, false, false] rfl rfl (any_of HT_.out (by kernel_rfl)) (fun _ _ _ h => h) (Or.inl ⟨by rfl, ?_⟩) ?_ ?_
        rotate_left
        ·intro w'
         go_simp
         with_reducible rfl
        rotate_left
        ·simp only [Act.put, sA_, sB_, sC_, i64_w, i32_w]
         rfl
        refine pure_ (i := 4) (N := some 105) (v := ?_) (a' := ?_) #[false, false, true, true, true, false, false, false, false, false, false, false, false] rfl rfl (any_of HT_.out (by kernel_rfl)) (fun _ _ _ h => h) (Or.inl ⟨by rfl, ?_⟩) ?_ ?_
        rotate_left
        ·intro w'
         go_simp
         with_reducible rfl
        rotate_left
        ·simp only [Act.put, sA_, sB_, sC_, i64_w, i32_w]
         rfl
        refine pure_ (i := 5) (N := some 106) (v := ?_) (a' := ?_) #[false, false, true, true, true, true, false, false, false, false, false, false, false] rfl rfl (any_of HT_.out (by kernel_rfl)) (fun _ _ _ h => h) (Or.inl ⟨by rfl, ?_⟩) ?_ ?_
        rotate_left
        ·intro w'
         go_simp
         with_reducible rfl
        rotate_left
        ·simp only [Act.put, sA_, sB_, sC_, i64_w, i32_w]
         rfl
        refine pure_ (i := 6) (N := some 107) (v := ?_) (a' := ?_) #[false, false, true, true, true, true, true, false, false, false, false, false, false] rfl rfl (any_of HT_.out (by kernel_rfl)) (fun _ _ _ h => h) (Or.inl ⟨by rfl, ?_⟩) ?_ ?_
        rotate_left
        ·intro w'
         go_simp
         with_reducible rfl
        rotate_left
        ·simp only [Act.put, sA_, sB_, sC_, i64_w, i32_w]
         rfl
        refine pure_ (i := 8) (N := some 109) (v := ?_) (a' := ?_) #[false, false, true, true, true, true, true, false, true, false, false, false, false] rfl rfl (any_of HT_.out (by kernel_rfl)) (fun _ _ _ h => h) (Or.inl ⟨by rfl, ?_⟩) ?_ ?_
        rotate_left
        ·intro w'
         go_simp
         with_reducible rfl
        rotate_left
        ·simp only [Act.put, sA_, sB_, sC_, i64_w, i32_w]
         rfl
        refine pure_ (i := 9) (N := some 110) (v := ?_) (a' := ?_) #[false, false, true, true, true, true, true, false, true, true, false, false, false] rfl rfl (any_of HT_.out (by kernel_rfl)) (fun _ _ _ h => h) (Or.inl ⟨by rfl, ?_⟩) ?_ ?_
        rotate_left
        ·intro w'
         go_simp
         with_reducible rfl
        rotate_left
        ·simp only [Act.put, sA_, sB_, sC_, i64_w, i32_w]
         rfl
        refine pure_ (i := 10) (N := some 111) (v := ?_) (a' := ?_) #[false, false, true, true, true, true, true, false, true, true, true, false, false] rfl rfl (any_of HT_.out (by kernel_rfl)) (fun _ _ _ h => h) (Or.inl ⟨by rfl, ?_⟩) ?_ ?_
        rotate_left
        ·intro w'
         go_simp
         with_reducible rfl
        rotate_left
        ·simp only [Act.put, sA_, sB_, sC_, i64_w, i32_w]
         rfl
        refine take_ (i := 0) (N := some 101) (v := ?_) (a' := ?_) #[true, false, true, true, true, true, true, false, true, true, true, false, false] rfl rfl (take_ofW HT_.out HW_.out (by kernel_rfl)) (fun _ _ _ h => h) (Or.inl ⟨by rfl, ?_⟩) hHeld ?_ ?_
        rotate_left
        ·rintro w' ⟨s0, s1, s2, s3, s4, s5⟩
         go_simp
         with_reducible rfl
        rotate_left
        ·simp only [Act.put, sA_, sB_, sC_, i64_w, i32_w]
         rfl
        refine take_ (i := 1) (N := some 102) (v := ?_) (a' := ?_) #[true, true, true, true, true, true, true, false, true, true, true, false, false] rfl rfl (take_ofW HT_.out HW_.out (by kernel_rfl)) (fun _ _ _ h => h) (Or.inl ⟨by rfl, ?_⟩) hHeld ?_ ?_
        rotate_left
        ·rintro w' ⟨s0, s1, s2, s3, s4, s5⟩
         go_simp
         with_reducible rfl
        rotate_left
        ·simp only [Act.put, sA_, sB_, sC_, i64_w, i32_w]
         rfl
        refine one_ (i := 7) (N := some 108) #[true, true, true, true, true, true, true, true, true, true, true, false, false] rfl rfl (one_of HT_.out (by kernel_rfl)) (by decide) (fun K hK => ?_)
        refine goes_ Tryd.func36 (by kernel_rfl) rfl #[.agg #[.int .i64 a0_0, .int .i64 a0_1, .int .i64 a0_2, .int .u64 a0_3, .int .u64 a0_4, .int .u64 a0_5], .slice A728_0 (rd_L4 l3 0).length c728_0, .slice A122 y734.length c122, .int .u64 ji101, .bool true] (by rfl) rfl rfl (by (try simp only [List.map_toArray, List.map_cons, List.map_nil]); first | done | (simp only [Ny734.out]; rfl) | (simp only [Ny734.out, hji101]; rfl) | (simp only [hji101]; rfl) | rfl | (simp only [List.length_drop, List.length_take]; rfl)) ?_
        with_reducible refine (spec_Chained.calls kj28 a0_0 a0_1 a0_2 a0_3 a0_4 a0_5 (fun k_ => k_ < w.heap.size) _ _ (rd_L4 l3 0) _ _ y734 ji101 true t738 _ ?side1 ?side2 ?side3 A107.out).mono ?_
        (case side1 => exact Kd.V_mk HC728_0.out (Kd.F_below (Kd.C_F (Kd.heap_int .u8) HR728_0.out) (by repeat (first | (with_reducible first | exact HB.out | apply below_alloc | apply pw_below_drewN | apply below_drew1 | refine below_set ?_ GE687.out) | exact HB.out))))
        (case side2 => repeat (first | exact (Kd.C_below HR737.out HB.out) | (with_reducible refine Kd.C_alloc ?_ _) | (with_reducible refine Kd.C_drewN ?_ _) | (with_reducible refine Kd.C_drew ?_)))
        (case side3 => exact HC737.out)
        rintro e w126 ⟨v739, rfl, ho0, hb⟩
        refine ⟨_, rfl, ?_⟩
        have n0_ := Aside0.mk (Kd.V_lower (Kd.V_mono (ok' := fun k_ => k_ ≠ gb687) ho0 (fun k_ hk_ => Or.elim hk_ (fun hs_ => fun e_ => Nat.not_le.2 hs_ (by rw [e_]; exact GW687.out)) (fun hn_ => (Kd.freshB (g := gb687) (o := .cells #[.int .i64 a0_0, .int .i64 a0_1, .int .i64 a0_2, .int .u64 a0_3, .int .u64 a0_4, .int .u64 a0_5] 37 (0, 0)) (by (with_reducible repeat (first | refine blk_drewN ?_ _ | refine blk_drew ?_ | refine blk_alloc ?_ _)); exact BK687.out) k_ hn_)))) (below_size (by repeat (first | (with_reducible first | exact HB.out | apply below_alloc | apply pw_below_drewN | apply below_drew1 | refine below_set ?_ GE687.out) | exact HB.out))))
        have n1_ := Aside0.mk (blk_below (g := gb687) (o := .cells #[.int .i64 a0_0, .int .i64 a0_1, .int .i64 a0_2, .int .u64 a0_3, .int .u64 a0_4, .int .u64 a0_5] 37 (0, 0)) (by (with_reducible repeat (first | refine blk_drewN ?_ _ | refine blk_drew ?_ | refine blk_alloc ?_ _)); exact BK687.out) hb)
        have n2_ := Aside0.mk (below_step (by repeat (first | (with_reducible first | exact HB.out | apply below_alloc | apply pw_below_drewN | apply below_drew1 | refine below_set ?_ GE687.out) | exact HB.out)) hb)
        clear BK687
        clear HB
        have HO740 := n0_
        have BK687 := n1_
        have HB := n2_
        clear n0_ n1_ n2_
        (try clear hb)
        (try clear hb2)
        (try clear hk)
        (try clear hi)
        (try clear ho0)
        obtain ⟨Ao127, co127, eo127⟩ := Kd.V_slice HO740.out
        (first | subst eo127 | (injection eo127 with f1_ f2_ f3_; have f4_ := f1_.symm; have f5_ := f3_.symm; clear f1_ f2_ f3_; subst f4_; subst f5_))
        refine hK.out _ _ ⟨(blk_cell BK687.out 0).trans rfl, (blk_cell BK687.out 1).trans rfl, (blk_cell BK687.out 2).trans rfl, (blk_cell BK687.out 3).trans rfl, (blk_cell BK687.out 4).trans rfl, (blk_cell BK687.out 5).trans rfl⟩ (fun hHeld => ?_)
        clear hK K
        refine norm_ (a' := ?_) ?_ ?_
        rotate_left
        ·show Act.put _ (some 108) _ = _
         simp only [Act.put, sA_, sB_, sC_, i64_w, i32_w]
         rfl
        refine one_ (i := 11) (N := some 112) #[true, true, true, true, true, true, true, true, true, true, true, true, false] rfl rfl (one_of HT_.out (by kernel_rfl)) (by decide) (fun K hK => ?_)
        refine goes_ Tryd.func36 (by kernel_rfl) rfl #[.agg #[.int .i64 a0_0, .int .i64 a0_1, .int .i64 a0_2, .int .u64 a0_3, .int .u64 a0_4, .int .u64 a0_5], .slice Ao127 t738.length co127, .slice A125 y741.length c125, .int .u64 18446744073709551615, .bool true] (by rfl) rfl rfl (by (try simp only [List.map_toArray, List.map_cons, List.map_nil]); first | done | (simp only [Ny741.out]; rfl) | rfl | (simp only [List.length_drop, List.length_take]; rfl)) ?_
        with_reducible refine (spec_Chained.calls kj28 a0_0 a0_1 a0_2 a0_3 a0_4 a0_5 (fun k_ => k_ ≠ gb687) _ _ t738 _ _ y741 18446744073709551615 true t745 _ ?side1 ?side2 ?side3 A110.out).mono ?_
        (case side1 => first | exact HO740.out | exact Kd.V_mono HO740.out (fun k_ hk_ => ⟨⟨hk_.1, hk_.2.1⟩, hk_.2.2⟩))
        (case side2 => repeat (first | exact (Kd.C_below HR744.out HB.out) | (with_reducible refine Kd.C_alloc ?_ _) | (with_reducible refine Kd.C_drewN ?_ _) | (with_reducible refine Kd.C_drew ?_)))
        (case side3 => exact HC744.out)
        rintro e w128 ⟨v746, rfl, ho0, hb⟩
        refine ⟨_, rfl, ?_⟩
        have n0_ := Aside0.mk (Kd.V_below (by (with_reducible repeat (first | apply Kd.V_alloc | apply Kd.V_drewN | apply Kd.V_drew)); exact HO740.out) hb)
        have n1_ := Aside0.mk (Kd.V_lower (Kd.V_mono (ok' := fun k_ => k_ ≠ gb687) ho0 (fun k_ hk_ => Or.elim hk_ (fun hs_ => hs_) (fun hn_ => (Kd.freshB (g := gb687) (o := .cells #[.int .i64 a0_0, .int .i64 a0_1, .int .i64 a0_2, .int .u64 a0_3, .int .u64 a0_4, .int .u64 a0_5] 37 (0, 0)) (by (with_reducible repeat (first | refine blk_drewN ?_ _ | refine blk_drew ?_ | refine blk_alloc ?_ _)); exact BK687.out) k_ hn_)))) (below_size (by repeat (first | (with_reducible first | exact HB.out | apply below_alloc | apply pw_below_drewN | apply below_drew1 | refine below_set ?_ GE687.out) | exact HB.out))))
        have n2_ := Aside0.mk (blk_below (g := gb687) (o := .cells #[.int .i64 a0_0, .int .i64 a0_1, .int .i64 a0_2, .int .u64 a0_3, .int .u64 a0_4, .int .u64 a0_5] 37 (0, 0)) (by (with_reducible repeat (first | refine blk_drewN ?_ _ | refine blk_drew ?_ | refine blk_alloc ?_ _)); exact BK687.out) hb)
        have n3_ := Aside0.mk (below_step (by repeat (first | (with_reducible first | exact HB.out | apply below_alloc | apply pw_below_drewN | apply below_drew1 | refine below_set ?_ GE687.out) | exact HB.out)) hb)
        clear HO740
        clear BK687
        clear HB
        have HO740 := n0_
        have HO747 := n1_
        have BK687 := n2_
        have HB := n3_
        clear n0_ n1_ n2_ n3_
        (try clear hb)
        (try clear hb2)
        (try clear hk)
        (try clear hi)
        (try clear ho0)
        refine hK.out _ _ ⟨(blk_cell BK687.out 0).trans rfl, (blk_cell BK687.out 1).trans rfl, (blk_cell BK687.out 2).trans rfl, (blk_cell BK687.out 3).trans rfl, (blk_cell BK687.out 4).trans rfl, (blk_cell BK687.out 5).trans rfl⟩ (fun hHeld => ?_)
        clear hK K
        refine norm_ (a' := ?_) ?_ ?_
        rotate_left
        ·show Act.put _ (some 112) _ = _
         simp only [Act.put, sA_, sB_, sC_, i64_w, i32_w]
         rfl
        refine pure_ (i := 12) (N := some 20) (v := ?_) (a' := ?_) #[true, true, true, true, true, true, true, true, true, true, true, true, true] rfl rfl (any_of HT_.out (by kernel_rfl)) (fun _ _ _ h => h) (Or.inl ⟨by rfl, ?_⟩) ?_ ?_
        rotate_left
        ·intro w'
         go_simp
         with_reducible rfl
        rotate_left
        ·simp only [Act.put, sA_, sB_, sC_, i64_w, i32_w]
         rfl
        refine done_ (done_of HT_.out (by kernel_rfl)) ?_
        try go_wp2
        have n0_ := Aside0.mk (Kd.V_drew HO740.out)
        have n1_ := Aside0.mk (Kd.V_drew HO747.out)
        have n2_ := Aside0.mk (blk_drew BK687.out)
        have n3_ := Aside0.mk (below_drew1 HB.out)
        clear HO740
        clear HO747
        clear BK687
        clear HB
        have HO740 := n0_
        have HO747 := n1_
        have BK687 := n2_
        have HB := n3_
        clear n0_ n1_ n2_ n3_
        have q130 : (t733 : Int) ≤ ((y729.length : Int) : Int) := of_decide_eq_true (by first | (with_reducible assumption) | assumption)
        obtain ⟨i0130, hi0130, _, hsz130, _⟩ := info_parts info42
        have hroom130 : y729.length ≤ c122 := HC732.out
        have hC130 : Kd.C (Kd.slice 5 (Kd.int .u8)) _ A122 y729.length y729 := HR732.out
        have hcut130 := cut_to (P := Tryd.prog) 38 42 .i64 Tryd.underlying38 hi0130 A122 y729.length c122 t733 (of_decide_eq_true (by first | (with_reducible assumption) | assumption)) q130 hroom130
        have hr130 := Kd.C_take (m := (t733 : Int).toNat) hC130 (by omega)
        have hy130 : y734.length = (t733 : Int).toNat := (by rw [Ny748.out, List.length_take]; omega)
        rw [← Ny748.out] at hr130
        rw [← hy130] at hcut130
        have HR751 := Aside0.mk hr130
        have HC751 := Aside0.mk (show y734.length ≤ c122 from by omega)
        clear hr130 hC130 hroom130 hi0130 hsz130
        have KY130 := Aside0.mk hy130
        clear hy130
        replace q130 := eq_true q130
        have q131 : (t733 : Int) ≤ ((y729.length : Int) : Int) := of_decide_eq_true (by first | (with_reducible assumption) | assumption)
        obtain ⟨i0131, hi0131, _, hsz131, _⟩ := info_parts info42
        have hroom131 : y729.length ≤ c122 := HC732.out
        have hC131 : Kd.C (Kd.slice 5 (Kd.int .u8)) _ A122 y729.length y729 := HR732.out
        have q0131 : (0 : Int) ≤ (t733 : Int) := of_decide_eq_true (by first | (with_reducible assumption) | assumption)
        have hcut131 := cut_from (P := Tryd.prog) 38 42 .i64 Tryd.underlying38 hi0131 1 hsz131 A122 y729.length c122 t733 q0131 q131
        have hr131 := Kd.C_drop (m := (t733 : Int).toNat) (c := c122) hC131 (by omega) hroom131
        have hA131 : A125 = (if c122 = (t733 : Int).toNat then A122 else (A122 : Option Addr).map (·.add ((t733 : Int).toNat * 1))) := KA125.out
        have hc131 : c125 = c122 - (t733 : Int).toNat := KC125.out
        have hy131 : y741.length = y729.length - (t733 : Int).toNat := (by rw [Ny755.out, List.length_drop] <;> omega)
        rw [show (y729).drop (t733 : Int).toNat = y741 from Ny755.out.symm] at hr131
        replace hr131 : Kd.C (Kd.slice 5 (Kd.int .u8)) _ A125 y741.length y741 := (by rw [hA131]; exact hr131)
        rw [← hy131, ← hA131, ← hc131] at hcut131
        have HR758 := Aside0.mk hr131
        have HC758 := Aside0.mk (show y741.length ≤ c125 from by rw [hy131, hc131]; exact Nat.sub_le_sub_right hroom131 _)
        clear hr131 hC131 hroom131 hi0131 hsz131 hc131
        have KY131 := Aside0.mk hy131
        have KA131 := Aside0.mk hA131
        clear hy131 hA131
        replace q131 := eq_true q131
        refine start_ (n := 13) (S := fun w' => w'.cell? ⟨gb687, 0, none⟩ = some (.int .i64 a0_0) ∧ w'.cell? ⟨gb687, 1, none⟩ = some (.int .i64 a0_1) ∧ w'.cell? ⟨gb687, 2, none⟩ = some (.int .i64 a0_2) ∧ w'.cell? ⟨gb687, 3, none⟩ = some (.int .u64 a0_3) ∧ w'.cell? ⟨gb687, 4, none⟩ = some (.int .u64 a0_4) ∧ w'.cell? ⟨gb687, 5, none⟩ = some (.int .u64 a0_5)) (ds := []) #[false, false, false, false, false, false, false, false, false, false, false, false, false] (by kernel_rfl) rfl rfl ⟨(blk_cell BK687.out 0).trans rfl, (blk_cell BK687.out 1).trans rfl, (blk_cell BK687.out 2).trans rfl, (blk_cell BK687.out 3).trans rfl, (blk_cell BK687.out 4).trans rfl, (blk_cell BK687.out 5).trans rfl⟩ (fun hHeld => ?_); refine with_tabW laws_FnVerifyConsistencyFar.tab16 laws_FnVerifyConsistencyFar.bits16 (fun HT_ HW_ => ?_)
        generalize w128.drew = w129 at HO740 HO747 BK687 HB HR751 HR758 hHeld ⊢
        refine pure_ (i := 2) (N := some 115) (v := ?_) (a' := ?_) #[false, false, true, false, false, false, false, false, false, false, false, false, false] rfl rfl (any_of HT_.out (by kernel_rfl)) (fun _ _ _ h => h) (Or.inl ⟨by rfl, ?_⟩) ?_ ?_
        rotate_left
        ·intro w'
         go_simp
         with_reducible rfl
        rotate_left
        ·simp only [Act.put, sA_, sB_, sC_, i64_w, i32_w]
         rfl
        refine pure_ (i := 3) (N := some 116) (v := ?_) (a' := ?_) #[false, false, true, true, false, false, false, false, false, false, false, false, false] rfl rfl (any_of HT_.out (by kernel_rfl)) (fun _ _ _ h => h) (Or.inl ⟨by rfl, ?_⟩) ?_ ?_
        rotate_left
        ·intro w'
         go_simp
         with_reducible rfl
        rotate_left
        ·simp only [Act.put, sA_, sB_, sC_, i64_w, i32_w]
         rfl
        refine pure_ (i := 4) (N := some 117) (v := ?_) (a' := ?_) #[false, false, true, true, true, false, false, false, false, false, false, false, false] rfl rfl (any_of HT_.out (by kernel_rfl)) (fun _ _ _ h => h) (Or.inl ⟨by rfl, ?_⟩) ?_ ?_
        rotate_left
        ·intro w'
         go_simp
         with_reducible rfl
        rotate_left
        ·simp only [Act.put, sA_, sB_, sC_, i64_w, i32_w]
         rfl
        refine pure_ (i := 5) (N := some 118) (v := ?_) (a' := ?_) #[false, false, true, true, true, true, false, false, false, false, false, false, false] rfl rfl (any_of HT_.out (by kernel_rfl)) (fun _ _ _ h => h) (Or.inl ⟨by rfl, ?_⟩) ?_ ?_
        rotate_left
        ·intro w'
         go_simp
         with_reducible rfl
        rotate_left
        ·simp only [Act.put, sA_, sB_, sC_, i64_w, i32_w]
         rfl
        refine pure_ (i := 6) (N := some 119) (v := ?_) (a' := ?_) #[false, false, true, true, true, true, true, false, false, false, false, false, false] rfl rfl (any_of HT_.out (by kernel_rfl)) (fun _ _ _ h => h) (Or.inl ⟨by rfl, ?_⟩) ?_ ?_
        rotate_left
        ·intro w'
         go_simp
         with_reducible rfl
        rotate_left
        ·simp only [Act.put, sA_, sB_, sC_, i64_w, i32_w]
         rfl
        refine pure_ (i := 8) (N := some 121) (v := ?_) (a' := ?_) #[false, false, true, true, true, true, true, false, true, false, false, false, false] rfl rfl (any_of HT_.out (by kernel_rfl)) (fun _ _ _ h => h) (Or.inl ⟨by rfl, ?_⟩) ?_ ?_
        rotate_left
        ·intro w'
         go_simp
         with_reducible rfl
        rotate_left
        ·simp only [Act.put, sA_, sB_, sC_, i64_w, i32_w]
         rfl
        refine pure_ (i := 9) (N := some 122) (v := ?_) (a' := ?_) #[false, false, true, true, true, true, true, false, true, true, false, false, false] rfl rfl (any_of HT_.out (by kernel_rfl)) (fun _ _ _ h => h) (Or.inl ⟨by rfl, ?_⟩) ?_ ?_
        rotate_left
        ·intro w'
         go_simp
         with_reducible rfl
        rotate_left
        ·simp only [Act.put, sA_, sB_, sC_, i64_w, i32_w]
         rfl
        refine pure_ (i := 10) (N := some 123) (v := ?_) (a' := ?_) #[false, false, true, true, true, true, true, false, true, true, true, false, false] rfl rfl (any_of HT_.out (by kernel_rfl)) (fun _ _ _ h => h) (Or.inl ⟨by rfl, ?_⟩) ?_ ?_
        rotate_left
        ·intro w'
         go_simp
         with_reducible rfl
        rotate_left
        ·simp only [Act.put, sA_, sB_, sC_, i64_w, i32_w]
         rfl
        refine take_ (i := 0) (N := some 113) (v := ?_) (a' := ?_) #[true, false, true, true, true, true, true, false, true, true, true, false, false] rfl rfl (take_ofW HT_.out HW_.out (by kernel_rfl)) (fun _ _ _ h => h) (Or.inl ⟨by rfl, ?_⟩) hHeld ?_ ?_
        rotate_left
        ·rintro w' ⟨s0, s1, s2, s3, s4, s5⟩
         go_simp
         with_reducible rfl
        rotate_left
        ·simp only [Act.put, sA_, sB_, sC_, i64_w, i32_w]
         rfl
        refine take_ (i := 1) (N := some 114) (v := ?_) (a' := ?_) #[true, true, true, true, true, true, true, false, true, true, true, false, false] rfl rfl (take_ofW HT_.out HW_.out (by kernel_rfl)) (fun _ _ _ h => h) (Or.inl ⟨by rfl, ?_⟩) hHeld ?_ ?_
        rotate_left
        ·rintro w' ⟨s0, s1, s2, s3, s4, s5⟩
         go_simp
         with_reducible rfl
        rotate_left
        ·simp only [Act.put, sA_, sB_, sC_, i64_w, i32_w]
         rfl
        refine one_ (i := 7) (N := some 120) #[true, true, true, true, true, true, true, true, true, true, true, false, false] rfl rfl (one_of HT_.out (by kernel_rfl)) (by decide) (fun K hK => ?_)
        refine goes_ Tryd.func36 (by kernel_rfl) rfl #[.agg #[.int .i64 a0_0, .int .i64 a0_1, .int .i64 a0_2, .int .u64 a0_3, .int .u64 a0_4, .int .u64 a0_5], .slice A728_0 (rd_L4 l3 0).length c728_0, .slice A122 y734.length c122, .int .u64 ji101, .bool false] (by rfl) rfl rfl (by (try simp only [List.map_toArray, List.map_cons, List.map_nil]); first | done | (simp only [Ny748.out]; rfl) | (simp only [Ny748.out, hji101]; rfl) | (simp only [hji101]; rfl) | rfl | (simp only [List.length_drop, List.length_take]; rfl)) ?_
        with_reducible refine (spec_Chained.calls kj28 a0_0 a0_1 a0_2 a0_3 a0_4 a0_5 (fun k_ => k_ < w.heap.size) _ _ (rd_L4 l3 0) _ _ y734 ji101 false t752 _ ?side1 ?side2 ?side3 A113.out).mono ?_
        (case side1 => exact Kd.V_mk HC728_0.out (Kd.F_below (Kd.C_F (Kd.heap_int .u8) HR728_0.out) (by repeat (first | (with_reducible first | exact HB.out | apply below_alloc | apply pw_below_drewN | apply below_drew1 | refine below_set ?_ GE687.out) | exact HB.out))))
        (case side2 => repeat (first | exact (Kd.C_below HR751.out HB.out) | (with_reducible refine Kd.C_alloc ?_ _) | (with_reducible refine Kd.C_drewN ?_ _) | (with_reducible refine Kd.C_drew ?_)))
        (case side3 => exact HC751.out)
        rintro e w132 ⟨v753, rfl, ho0, hb⟩
        refine ⟨_, rfl, ?_⟩
        have n0_ := Aside0.mk (Kd.V_below (by (with_reducible repeat (first | apply Kd.V_alloc | apply Kd.V_drewN | apply Kd.V_drew)); exact HO740.out) hb)
        have n1_ := Aside0.mk (Kd.V_below (by (with_reducible repeat (first | apply Kd.V_alloc | apply Kd.V_drewN | apply Kd.V_drew)); exact HO747.out) hb)
        have n2_ := Aside0.mk (Kd.V_lower (Kd.V_mono (ok' := fun k_ => k_ ≠ gb687) ho0 (fun k_ hk_ => Or.elim hk_ (fun hs_ => fun e_ => Nat.not_le.2 hs_ (by rw [e_]; exact GW687.out)) (fun hn_ => (Kd.freshB (g := gb687) (o := .cells #[.int .i64 a0_0, .int .i64 a0_1, .int .i64 a0_2, .int .u64 a0_3, .int .u64 a0_4, .int .u64 a0_5] 37 (0, 0)) (by (with_reducible repeat (first | refine blk_drewN ?_ _ | refine blk_drew ?_ | refine blk_alloc ?_ _)); exact BK687.out) k_ hn_)))) (below_size (by repeat (first | (with_reducible first | exact HB.out | apply below_alloc | apply pw_below_drewN | apply below_drew1 | refine below_set ?_ GE687.out) | exact HB.out))))
        have n3_ := Aside0.mk (blk_below (g := gb687) (o := .cells #[.int .i64 a0_0, .int .i64 a0_1, .int .i64 a0_2, .int .u64 a0_3, .int .u64 a0_4, .int .u64 a0_5] 37 (0, 0)) (by (with_reducible repeat (first | refine blk_drewN ?_ _ | refine blk_drew ?_ | refine blk_alloc ?_ _)); exact BK687.out) hb)
        have n4_ := Aside0.mk (below_step (by repeat (first | (with_reducible first | exact HB.out | apply below_alloc | apply pw_below_drewN | apply below_drew1 | refine below_set ?_ GE687.out) | exact HB.out)) hb)
        clear HO740
        clear HO747
        clear BK687
        clear HB
        have HO740 := n0_
        have HO747 := n1_
        have HO754 := n2_
        have BK687 := n3_
        have HB := n4_
        clear n0_ n1_ n2_ n3_ n4_
        (try clear hb)
        (try clear hb2)
        (try clear hk)
        (try clear hi)
        (try clear ho0)
        obtain ⟨Ao133, co133, eo133⟩ := Kd.V_slice HO754.out
        (first | subst eo133 | (injection eo133 with f1_ f2_ f3_; have f4_ := f1_.symm; have f5_ := f3_.symm; clear f1_ f2_ f3_; subst f4_; subst f5_))
        refine hK.out _ _ ⟨(blk_cell BK687.out 0).trans rfl, (blk_cell BK687.out 1).trans rfl, (blk_cell BK687.out 2).trans rfl, (blk_cell BK687.out 3).trans rfl, (blk_cell BK687.out 4).trans rfl, (blk_cell BK687.out 5).trans rfl⟩ (fun hHeld => ?_)
        clear hK K
        refine norm_ (a' := ?_) ?_ ?_
        rotate_left
        ·show Act.put _ (some 120) _ = _
         simp only [Act.put, sA_, sB_, sC_, i64_w, i32_w]
         rfl
        refine one_ (i := 11) (N := some 124) #[true, true, true, true, true, true, true, true, true, true, true, true, false] rfl rfl (one_of HT_.out (by kernel_rfl)) (by decide) (fun K hK => ?_)
        refine goes_ Tryd.func36 (by kernel_rfl) rfl #[.agg #[.int .i64 a0_0, .int .i64 a0_1, .int .i64 a0_2, .int .u64 a0_3, .int .u64 a0_4, .int .u64 a0_5], .slice Ao133 t752.length co133, .slice A125 y741.length c125, .int .u64 18446744073709551615, .bool true] (by rfl) rfl rfl (by (try simp only [List.map_toArray, List.map_cons, List.map_nil]); first | done | (simp only [Ny755.out]; rfl) | rfl | (simp only [List.length_drop, List.length_take]; rfl)) ?_
        with_reducible refine (spec_Chained.calls kj28 a0_0 a0_1 a0_2 a0_3 a0_4 a0_5 (fun k_ => k_ ≠ gb687) _ _ t752 _ _ y741 18446744073709551615 true t759 _ ?side1 ?side2 ?side3 A116.out).mono ?_
        (case side1 => first | exact HO754.out | exact Kd.V_mono HO754.out (fun k_ hk_ => ⟨⟨hk_.1, hk_.2.1⟩, hk_.2.2⟩))
        (case side2 => repeat (first | exact (Kd.C_below HR758.out HB.out) | (with_reducible refine Kd.C_alloc ?_ _) | (with_reducible refine Kd.C_drewN ?_ _) | (with_reducible refine Kd.C_drew ?_)))
        (case side3 => exact HC758.out)
        rintro e w134 ⟨v760, rfl, ho0, hb⟩
        refine ⟨_, rfl, ?_⟩
        have n0_ := Aside0.mk (Kd.V_below (by (with_reducible repeat (first | apply Kd.V_alloc | apply Kd.V_drewN | apply Kd.V_drew)); exact HO740.out) hb)
        have n1_ := Aside0.mk (Kd.V_below (by (with_reducible repeat (first | apply Kd.V_alloc | apply Kd.V_drewN | apply Kd.V_drew)); exact HO747.out) hb)
        have n2_ := Aside0.mk (Kd.V_below (by (with_reducible repeat (first | apply Kd.V_alloc | apply Kd.V_drewN | apply Kd.V_drew)); exact HO754.out) hb)
        have n3_ := Aside0.mk (Kd.V_lower (Kd.V_mono (ok' := fun k_ => k_ ≠ gb687) ho0 (fun k_ hk_ => Or.elim hk_ (fun hs_ => hs_) (fun hn_ => (Kd.freshB (g := gb687) (o := .cells #[.int .i64 a0_0, .int .i64 a0_1, .int .i64 a0_2, .int .u64 a0_3, .int .u64 a0_4, .int .u64 a0_5] 37 (0, 0)) (by (with_reducible repeat (first | refine blk_drewN ?_ _ | refine blk_drew ?_ | refine blk_alloc ?_ _)); exact BK687.out) k_ hn_)))) (below_size (by repeat (first | (with_reducible first | exact HB.out | apply below_alloc | apply pw_below_drewN | apply below_drew1 | refine below_set ?_ GE687.out) | exact HB.out))))
        have n4_ := Aside0.mk (blk_below (g := gb687) (o := .cells #[.int .i64 a0_0, .int .i64 a0_1, .int .i64 a0_2, .int .u64 a0_3, .int .u64 a0_4, .int .u64 a0_5] 37 (0, 0)) (by (with_reducible repeat (first | refine blk_drewN ?_ _ | refine blk_drew ?_ | refine blk_alloc ?_ _)); exact BK687.out) hb)
        have n5_ := Aside0.mk (below_step (by repeat (first | (with_reducible first | exact HB.out | apply below_alloc | apply pw_below_drewN | apply below_drew1 | refine below_set ?_ GE687.out) | exact HB.out)) hb)
        clear HO740
        clear HO747
        clear HO754
        clear BK687
        clear HB
        have HO740 := n0_
        have HO747 := n1_
        have HO754 := n2_
        have HO761 := n3_
        have BK687 := n4_
        have HB := n5_
        clear n0_ n1_ n2_ n3_ n4_ n5_
        (try clear hb)
        (try clear hb2)
        (try clear hk)
        (try clear hi)
        (try clear ho0)
        refine hK.out _ _ ⟨(blk_cell BK687.out 0).trans rfl, (blk_cell BK687.out 1).trans rfl, (blk_cell BK687.out 2).trans rfl, (blk_cell BK687.out 3).trans rfl, (blk_cell BK687.out 4).trans rfl, (blk_cell BK687.out 5).trans rfl⟩ (fun hHeld => ?_)
        clear hK K
        refine norm_ (a' := ?_) ?_ ?_
        rotate_left
        ·show Act.put _ (some 124) _ = _
         simp only [Act.put, sA_, sB_, sC_, i64_w, i32_w]
         rfl
        refine pure_ (i := 12) (N := some 21) (v := ?_) (a' := ?_) #[true, true, true, true, true, true, true, true, true, true, true, true, true] rfl rfl (any_of HT_.out (by kernel_rfl)) (fun _ _ _ h => h) (Or.inl ⟨by rfl, ?_⟩) ?_ ?_
        rotate_left
        ·intro w'
         go_simp
         with_reducible rfl
        rotate_left
        ·simp only [Act.put, sA_, sB_, sC_, i64_w, i32_w]
         rfl
        refine done_ (done_of HT_.out (by kernel_rfl)) ?_
        obtain ⟨Ao135, co135, eo135⟩ := Kd.V_slice HO747.out
        subst eo135
        try go_wp2_with (first | ((with_reducible refine gate_callee (f := 25) rfl ?_); refine goesL_ (some 127) rfl rfl Tryd.func25 (by kernel_rfl) rfl #[.slice Ao135 t745.length co135, .slice A4 l4.length c4] rfl (by (try simp only [List.map_toArray, List.map_cons, List.map_nil]); first | done | rfl | (simp only [List.length_drop, List.length_take]; rfl)) ?_; (with_reducible refine (spec_SameText.calls _ _ t745 _ _ l4 true _ ?side1 ?side2 ?side3 ?side4 A117.out).mono ?_); (case side1 => repeat (first | exact (Kd.V_reads' HO747.out).2.2 | (with_reducible refine Kd.C_alloc ?_ _) | (with_reducible refine Kd.C_drewN ?_ _) | (with_reducible refine Kd.C_drew ?_))); (case side2 => exact (Kd.V_reads' HO747.out).2.1); (case side3 => repeat (first | exact (Kd.C_below HR4.out HB.out) | (with_reducible refine Kd.C_alloc ?_ _) | (with_reducible refine Kd.C_drewN ?_ _) | (with_reducible refine Kd.C_drew ?_))); (case side4 => exact HC4.out); rintro e w' ⟨rfl, ⟨nd, rfl⟩⟩; refine ⟨_, rfl, ?_⟩; obtain ⟨Ao136, co136, eo136⟩ := Kd.V_slice HO761.out; subst eo136) | (go_at_call 25; (with_reducible refine (spec_SameText.calls _ _ t759 _ _ l5 true _ ?side1 ?side2 ?side3 ?side4 A119.out).mono ?_); (case side1 => repeat (first | exact (Kd.V_reads' HO761.out).2.2 | (with_reducible refine Kd.C_alloc ?_ _) | (with_reducible refine Kd.C_drewN ?_ _) | (with_reducible refine Kd.C_drew ?_))); (case side2 => exact (Kd.V_reads' HO761.out).2.1); (case side3 => repeat (first | exact (Kd.C_below HR5.out (by repeat (first | (with_reducible first | exact HB.out | apply below_alloc | apply pw_below_drewN | apply below_drew1 | refine below_set ?_ GE687.out) | exact HB.out))) | (with_reducible refine Kd.C_alloc ?_ _) | (with_reducible refine Kd.C_drewN ?_ _) | (with_reducible refine Kd.C_drew ?_))); (case side4 => exact HC5.out); rintro e w' ⟨rfl, ⟨nd, rfl⟩⟩))
        go_ret
        exact ⟨by first | rfl | (simp [errW_none, errW_some] <;> rfl) | (simp only [← hji34, ← hji101, ← hji103]; first | rfl | (simp [errW_none, errW_some] <;> rfl)) | (simp [*, errW_none, errW_some] <;> rfl), by repeat (first | (with_reducible first | exact HB.out | apply below_alloc | apply pw_below_drewN | apply below_drew1 | refine below_set ?_ GE687.out) | exact HB.out)⟩
       replace c120 := Bool.eq_false_iff.mpr c120
       subst c120
       have H1 : (some (t690 == 1)) = some r := by rw [if_neg (show ¬ (false = true) by decide)] at H; exact H
       clear H
       have H := H1
       clear H1
       obtain rfl := Option.some.inj H
       try go_wp2
       have n0_ := Aside0.mk (blk_drew BK687.out)
       have n1_ := Aside0.mk (below_drew1 HB.out)
       clear BK687
       clear HB
       have BK687 := n0_
       have HB := n1_
       clear n0_ n1_
       have p728 : 0 ≤ (0 : Int) := (by omega)
       have q728 : 0 < (l3.length : Int) := of_decide_eq_true (by first | (with_reducible assumption) | assumption)
       obtain ⟨ad728, A728_0, c728_0, e728, hx728_0, hl728_0, hi728_0⟩ := at_L4 HR3.out 0 p728 q728
       have hw728_0 := hx728_0
       (try rw [show ((0 : Int)).toNat = 0 from rfl] at hw728_0)
       (try rw [show 0 * 1 = 0 from rfl] at hw728_0)
       (try rw [Addr.add_zero'] at hw728_0)
       cases e728
       have qi728 : (0 < l3.length) = True := eq_true (by omega)
       (try rw [show ((0 : Int)).toNat = 0 from rfl] at hx728_0)
       (try rw [Addr.add_zero'] at hx728_0)
       replace hx728_0 := (HB.out.cell (World.block_lt_of_cell? w _ hx728_0)).trans hx728_0
       have HR728_0 := Aside0.mk hi728_0
       have HC728_0 := Aside0.mk hl728_0
       clear hi728_0 hl728_0
       replace p728 := eq_true p728
       replace q728 := eq_true q728
       have q138 : (1 : Int) ≤ ((l3.length : Int) : Int) := of_decide_eq_true (by first | (with_reducible assumption) | assumption)
       obtain ⟨i0138, hi0138, _, hsz138, _⟩ := info_parts info42
       have hroom138 : l3.length ≤ c3 := HC3.out
       have hC138 : Kd.C (Kd.slice 5 (Kd.int .u8)) _ (some ad728) l3.length l3 := HR3.out
       have hcut138 := cut_from (P := Tryd.prog) 38 42 .i64 Tryd.underlying38 hi0138 1 hsz138 (some ad728) l3.length c3 1 (by omega) q138
       have hr138 := Kd.C_drop (m := (1 : Int).toNat) (c := c3) hC138 (by omega) hroom138
       obtain ⟨A138, hA138⟩ : ∃ A1q_, A1q_ = (if c3 = (1 : Int).toNat then (some ad728) else ((some ad728) : Option Addr).map (·.add ((1 : Int).toNat * 1))) := ⟨_, rfl⟩
       obtain ⟨c138, hc138⟩ : ∃ c1q_, c1q_ = c3 - (1 : Int).toNat := ⟨_, rfl⟩
       have hy138 : y729.length = l3.length - (1 : Int).toNat := (by rw [Ny729.out, List.length_drop] <;> omega)
       rw [show (l3).drop (1 : Int).toNat = y729 from Ny729.out.symm] at hr138
       replace hr138 : Kd.C (Kd.slice 5 (Kd.int .u8)) _ A138 y729.length y729 := (by rw [hA138]; exact hr138)
       rw [← hy138, ← hA138, ← hc138] at hcut138
       have HR732 := Aside0.mk hr138
       have HC732 := Aside0.mk (show y729.length ≤ c138 from by rw [hy138, hc138]; exact Nat.sub_le_sub_right hroom138 _)
       clear hr138 hC138 hroom138 hi0138 hsz138
       have KC138 := Aside0.mk hc138
       clear hc138
       have KY138 := Aside0.mk hy138
       have KA138 := Aside0.mk hA138
       clear hy138 hA138
       replace q138 := eq_true q138
       refine start_ (n := 7) (S := fun w' => w'.cell? ad728 = some (.slice A728_0 (rd_L4 l3 0).length c728_0)) (ds := []) #[false, false, false, false, false, false, false] (by kernel_rfl) rfl rfl (((HB.out.cell (World.block_lt_of_cell? w _ hw728_0)).trans hw728_0)) (fun hHeld => ?_)
       generalize wc.drew = w137 at BK687 HB HR728_0 HR732 hx728_0 hHeld ⊢
       refine pure_ (i := 0) (N := some 85) (v := ?_) (a' := ?_) #[true, false, false, false, false, false, false] rfl rfl (by kernel_rfl) (fun _ _ _ h => h) (Or.inl ⟨by rfl, ?_⟩) ?_ ?_
       rotate_left
       ·intro w'
        go_simp
        with_reducible rfl
       rotate_left
       ·simp only [Act.put, sA_, sB_, sC_, i64_w, i32_w]
        rfl
       refine pure_ (i := 1) (N := some 86) (v := ?_) (a' := ?_) #[true, true, false, false, false, false, false] rfl rfl (by kernel_rfl) (fun _ _ _ h => h) (Or.inl ⟨by rfl, ?_⟩) ?_ ?_
       rotate_left
       ·intro w'
        go_simp
        with_reducible rfl
       rotate_left
       ·simp only [Act.put, sA_, sB_, sC_, i64_w, i32_w]
        rfl
       refine pure_ (i := 3) (N := some 88) (v := ?_) (a' := ?_) #[true, true, false, true, false, false, false] rfl rfl (by kernel_rfl) (fun _ _ _ h => h) (Or.inl ⟨by rfl, ?_⟩) ?_ ?_
       rotate_left
       ·intro w'
        go_simp
        with_reducible rfl
       rotate_left
       ·simp only [Act.put, sA_, sB_, sC_, i64_w, i32_w]
        rfl
       refine pure_ (i := 4) (N := some 89) (v := ?_) (a' := ?_) #[true, true, false, true, true, false, false] rfl rfl (by kernel_rfl) (fun _ _ _ h => h) (Or.inl ⟨by rfl, ?_⟩) ?_ ?_
       rotate_left
       ·intro w'
        go_simp
        with_reducible rfl
       rotate_left
       ·simp only [Act.put, sA_, sB_, sC_, i64_w, i32_w]
        rfl
       refine take_ (i := 2) (N := some 87) (v := ?_) (a' := ?_) #[true, true, true, true, true, false, false] rfl rfl (by kernel_rfl) (fun _ _ _ h => h) (Or.inl ⟨by rfl, ?_⟩) hHeld ?_ ?_
       rotate_left
       ·intro w' s0
        go_simp
        with_reducible rfl
       rotate_left
       ·simp only [Act.put, sA_, sB_, sC_, i64_w, i32_w]
        rfl
       refine pure_ (i := 5) (N := some 16) (v := ?_) (a' := ?_) #[true, true, true, true, true, true, false] rfl rfl (by kernel_rfl) (fun _ _ _ h => h) (Or.inl ⟨by rfl, ?_⟩) ?_ ?_
       rotate_left
       ·intro w'
        go_simp
        with_reducible rfl
       rotate_left
       ·simp only [Act.put, sA_, sB_, sC_, i64_w, i32_w]
        rfl
       refine pure_ (i := 6) (N := some 17) (v := ?_) (a' := ?_) #[true, true, true, true, true, true, true] rfl rfl (by kernel_rfl) (fun _ _ _ h => h) (Or.inl ⟨by rfl, ?_⟩) ?_ ?_
       rotate_left
       ·intro w'
        go_simp
        with_reducible rfl
       rotate_left
       ·simp only [Act.put, sA_, sB_, sC_, i64_w, i32_w]
        rfl
       refine done_ (by kernel_rfl) ?_
       try go_wp2_with (first | ((with_reducible refine gate_callee (f := 35) rfl ?_); refine goesL_ (some 100) rfl rfl Tryd.func35 (by kernel_rfl) rfl #[.int .u64 ji101, .int .u64 (IntKind.u64.wrap ((ji103) + 1))] rfl (by (try simp only [List.map_toArray, List.map_cons, List.map_nil]); first | done | (simp only [hji101, hji103]; rfl) | rfl | (simp only [List.length_drop, List.length_take]; rfl)) ?_; (with_reducible refine (spec_Inner.calls kj28 ji101 (IntKind.u64.wrap ((ji103) + 1)) t733 _ A104.out).mono ?_); rintro e w' ⟨rfl, ⟨nd, rfl⟩⟩; refine ⟨_, rfl, ?_⟩))
       (try (rw [drewN_self w137]; generalize hq_ : World.drewN w137 _ = w137; have n0_ : Aside0 (w137.heap[gb687]? = some (.cells #[.int .i64 a0_0, .int .i64 a0_1, .int .i64 a0_2, .int .u64 a0_3, .int .u64 a0_4, .int .u64 a0_5] 37 (0, 0))) := ⟨by rw [← hq_]; exact (by (with_reducible repeat (first | refine blk_drewN ?_ _ | refine blk_drew ?_ | refine blk_alloc ?_ _)); exact BK687.out)⟩; have n1_ : Aside0 (Below w.heap.size w w137) := ⟨by rw [← hq_]; exact (by repeat (first | (with_reducible first | exact HB.out | apply below_alloc | apply pw_below_drewN | apply below_drew1 | refine below_set ?_ GE687.out) | exact HB.out))⟩; clear BK687 HB hq_; have BK687 := n0_; have HB := n1_; clear n0_ n1_))
       have n0_ := Aside0.mk (blk_drew BK687.out)
       have n1_ := Aside0.mk (below_drew1 HB.out)
       clear BK687
       clear HB
       have BK687 := n0_
       have HB := n1_
       clear n0_ n1_
       have q140 : (t733 : Int) ≤ ((y729.length : Int) : Int) := of_decide_eq_true (by first | (with_reducible assumption) | assumption)
       obtain ⟨i0140, hi0140, _, hsz140, _⟩ := info_parts info42
       have hroom140 : y729.length ≤ c138 := HC732.out
       have hC140 : Kd.C (Kd.slice 5 (Kd.int .u8)) _ A138 y729.length y729 := HR732.out
       have hcut140 := cut_to (P := Tryd.prog) 38 42 .i64 Tryd.underlying38 hi0140 A138 y729.length c138 t733 (of_decide_eq_true (by first | (with_reducible assumption) | assumption)) q140 hroom140
       have hr140 := Kd.C_take (m := (t733 : Int).toNat) hC140 (by omega)
       have hy140 : y734.length = (t733 : Int).toNat := (by rw [Ny734.out, List.length_take]; omega)
       rw [← Ny734.out] at hr140
       rw [← hy140] at hcut140
       have HR737 := Aside0.mk hr140
       have HC737 := Aside0.mk (show y734.length ≤ c138 from by omega)
       clear hr140 hC140 hroom140 hi0140 hsz140
       have KY140 := Aside0.mk hy140
       clear hy140
       replace q140 := eq_true q140
       have q141 : (t733 : Int) ≤ ((y729.length : Int) : Int) := of_decide_eq_true (by first | (with_reducible assumption) | assumption)
       obtain ⟨i0141, hi0141, _, hsz141, _⟩ := info_parts info42
       have hroom141 : y729.length ≤ c138 := HC732.out
       have hC141 : Kd.C (Kd.slice 5 (Kd.int .u8)) _ A138 y729.length y729 := HR732.out
       have q0141 : (0 : Int) ≤ (t733 : Int) := of_decide_eq_true (by first | (with_reducible assumption) | assumption)
       have hcut141 := cut_from (P := Tryd.prog) 38 42 .i64 Tryd.underlying38 hi0141 1 hsz141 A138 y729.length c138 t733 q0141 q141
       have hr141 := Kd.C_drop (m := (t733 : Int).toNat) (c := c138) hC141 (by omega) hroom141
       obtain ⟨A141, hA141⟩ : ∃ A1q_, A1q_ = (if c138 = (t733 : Int).toNat then A138 else (A138 : Option Addr).map (·.add ((t733 : Int).toNat * 1))) := ⟨_, rfl⟩
       obtain ⟨c141, hc141⟩ : ∃ c1q_, c1q_ = c138 - (t733 : Int).toNat := ⟨_, rfl⟩
       have hy141 : y741.length = y729.length - (t733 : Int).toNat := (by rw [Ny741.out, List.length_drop] <;> omega)
       rw [show (y729).drop (t733 : Int).toNat = y741 from Ny741.out.symm] at hr141
       replace hr141 : Kd.C (Kd.slice 5 (Kd.int .u8)) _ A141 y741.length y741 := (by rw [hA141]; exact hr141)
       rw [← hy141, ← hA141, ← hc141] at hcut141
       have HR744 := Aside0.mk hr141
       have HC744 := Aside0.mk (show y741.length ≤ c141 from by rw [hy141, hc141]; exact Nat.sub_le_sub_right hroom141 _)
       clear hr141 hC141 hroom141 hi0141 hsz141
       have KC141 := Aside0.mk hc141
       clear hc141
       have KY141 := Aside0.mk hy141
       have KA141 := Aside0.mk hA141
       clear hy141 hA141
       replace q141 := eq_true q141
       refine start_ (n := 13) (S := fun w' => w'.cell? ⟨gb687, 0, none⟩ = some (.int .i64 a0_0) ∧ w'.cell? ⟨gb687, 1, none⟩ = some (.int .i64 a0_1) ∧ w'.cell? ⟨gb687, 2, none⟩ = some (.int .i64 a0_2) ∧ w'.cell? ⟨gb687, 3, none⟩ = some (.int .u64 a0_3) ∧ w'.cell? ⟨gb687, 4, none⟩ = some (.int .u64 a0_4) ∧ w'.cell? ⟨gb687, 5, none⟩ = some (.int .u64 a0_5)) (ds := []) #[false, false, false, false, false, false, false, false, false, false, false, false, false] (by kernel_rfl) rfl rfl ⟨(blk_cell BK687.out 0).trans rfl, (blk_cell BK687.out 1).trans rfl, (blk_cell BK687.out 2).trans rfl, (blk_cell BK687.out 3).trans rfl, (blk_cell BK687.out 4).trans rfl, (blk_cell BK687.out 5).trans rfl⟩ (fun hHeld => ?_); refine with_tabW laws_FnVerifyConsistencyFar.tab15 laws_FnVerifyConsistencyFar.bits15 (fun HT_ HW_ => ?_)
       generalize w137.drew = w139 at BK687 HB HR737 HR744 hHeld ⊢
       refine pure_ (i := 2) (N := some 103) (v := ?_) (a' := ?_) #[false, false, true, false, false, false, false, false, false, false, false, false, false] rfl rfl (any_of HT_.out (by kernel_rfl)) (fun _ _ _ h => h) (Or.inl ⟨by rfl, ?_⟩) ?_ ?_
       rotate_left
       ·intro w'
        go_simp
        with_reducible rfl
       rotate_left
       ·simp only [Act.put, sA_, sB_, sC_, i64_w, i32_w]
        rfl
       refine pure_ (i := 3) (N := some 104) (v := ?_) (a' := ?_) #[false, false, true, true, false, false, false, false, false, false, false, false, false] rfl rfl (any_of HT_.out (by kernel_rfl)) (fun _ _ _ h => h) (Or.inl ⟨by rfl, ?_⟩) ?_ ?_
       rotate_left
       ·intro w'
        go_simp
        with_reducible rfl
       rotate_left
       ·simp only [Act.put, sA_, sB_, sC_, i64_w, i32_w]
        rfl
       refine pure_ (i := 4) (N := some 105) (v := ?_) (a' := ?_) #[false, false, true, true, true, false, false, false, false, false, false, false, false] rfl rfl (any_of HT_.out (by kernel_rfl)) (fun _ _ _ h => h) (Or.inl ⟨by rfl, ?_⟩) ?_ ?_
       rotate_left
       ·intro w'
        go_simp
        with_reducible rfl
       rotate_left
       ·simp only [Act.put, sA_, sB_, sC_, i64_w, i32_w]
        rfl
       refine pure_ (i := 5) (N := some 106) (v := ?_) (a' := ?_) #[false, false, true, true, true, true, false, false, false, false, false, false, false] rfl rfl (any_of HT_.out (by kernel_rfl)) (fun _ _ _ h => h) (Or.inl ⟨by rfl, ?_⟩) ?_ ?_
       rotate_left
       ·intro w'
        go_simp
        with_reducible rfl
       rotate_left
       ·simp only [Act.put, sA_, sB_, sC_, i64_w, i32_w]
        rfl
       refine pure_ (i := 6) (N := some 107) (v := ?_) (a' := ?_) #[false, false, true, true, true, true, true, false, false, false, false, false, false] rfl rfl (any_of HT_.out (by kernel_rfl)) (fun _ _ _ h => h) (Or.inl ⟨by rfl, ?_⟩) ?_ ?_
       rotate_left
       ·intro w'
        go_simp
        with_reducible rfl
       rotate_left
       ·simp only [Act.put, sA_, sB_, sC_, i64_w, i32_w]
        rfl
       refine pure_ (i := 8) (N := some 109) (v := ?_) (a' := ?_) #[false, false, true, true, true, true, true, false, true, false, false, false, false] rfl rfl (any_of HT_.out (by kernel_rfl)) (fun _ _ _ h => h) (Or.inl ⟨by rfl, ?_⟩) ?_ ?_
       rotate_left
       ·intro w'
        go_simp
        with_reducible rfl
       rotate_left
       ·simp only [Act.put, sA_, sB_, sC_, i64_w, i32_w]
        rfl
       refine pure_ (i := 9) (N := some 110) (v := ?_) (a' := ?_) #[false, false, true, true, true, true, true, false, true, true, false, false, false] rfl rfl (any_of HT_.out (by kernel_rfl)) (fun _ _ _ h => h) (Or.inl ⟨by rfl, ?_⟩) ?_ ?_
       rotate_left
       ·intro w'
        go_simp
        with_reducible rfl
       rotate_left
       ·simp only [Act.put, sA_, sB_, sC_, i64_w, i32_w]
        rfl
       refine pure_ (i := 10) (N := some 111) (v := ?_) (a' := ?_) #[false, false, true, true, true, true, true, false, true, true, true, false, false] rfl rfl (any_of HT_.out (by kernel_rfl)) (fun _ _ _ h => h) (Or.inl ⟨by rfl, ?_⟩) ?_ ?_
       rotate_left
       ·intro w'
        go_simp
        with_reducible rfl
       rotate_left
       ·simp only [Act.put, sA_, sB_, sC_, i64_w, i32_w]
        rfl
       refine take_ (i := 0) (N := some 101) (v := ?_) (a' := ?_) #[true, false, true, true, true, true, true, false, true, true, true, false, false] rfl rfl (take_ofW HT_.out HW_.out (by kernel_rfl)) (fun _ _ _ h => h) (Or.inl ⟨by rfl, ?_⟩) hHeld ?_ ?_
       rotate_left
       ·rintro w' ⟨s0, s1, s2, s3, s4, s5⟩
        go_simp
        with_reducible rfl
       rotate_left
       ·simp only [Act.put, sA_, sB_, sC_, i64_w, i32_w]
        rfl
       refine take_ (i := 1) (N := some 102) (v := ?_) (a' := ?_) #[true, true, true, true, true, true, true, false, true, true, true, false, false] rfl rfl (take_ofW HT_.out HW_.out (by kernel_rfl)) (fun _ _ _ h => h) (Or.inl ⟨by rfl, ?_⟩) hHeld ?_ ?_
       rotate_left
       ·rintro w' ⟨s0, s1, s2, s3, s4, s5⟩
        go_simp
        with_reducible rfl
       rotate_left
       ·simp only [Act.put, sA_, sB_, sC_, i64_w, i32_w]
        rfl
       refine one_ (i := 7) (N := some 108) #[true, true, true, true, true, true, true, true, true, true, true, false, false] rfl rfl (one_of HT_.out (by kernel_rfl)) (by decide) (fun K hK => ?_)
       refine goes_ Tryd.func36 (by kernel_rfl) rfl #[.agg #[.int .i64 a0_0, .int .i64 a0_1, .int .i64 a0_2, .int .u64 a0_3, .int .u64 a0_4, .int .u64 a0_5], .slice A728_0 (rd_L4 l3 0).length c728_0, .slice A138 y734.length c138, .int .u64 ji101, .bool true] (by rfl) rfl rfl (by (try simp only [List.map_toArray, List.map_cons, List.map_nil]); first | done | (simp only [Ny734.out]; rfl) | (simp only [Ny734.out, hji101]; rfl) | (simp only [hji101]; rfl) | rfl | (simp only [List.length_drop, List.length_take]; rfl)) ?_
       with_reducible refine (spec_Chained.calls kj28 a0_0 a0_1 a0_2 a0_3 a0_4 a0_5 (fun k_ => k_ < w.heap.size) _ _ (rd_L4 l3 0) _ _ y734 ji101 true t738 _ ?side1 ?side2 ?side3 A107.out).mono ?_
       (case side1 => exact Kd.V_mk HC728_0.out (Kd.F_below (Kd.C_F (Kd.heap_int .u8) HR728_0.out) (by repeat (first | (with_reducible first | exact HB.out | apply below_alloc | apply pw_below_drewN | apply below_drew1 | refine below_set ?_ GE687.out) | exact HB.out))))
       (case side2 => repeat (first | exact (Kd.C_below HR737.out HB.out) | (with_reducible refine Kd.C_alloc ?_ _) | (with_reducible refine Kd.C_drewN ?_ _) | (with_reducible refine Kd.C_drew ?_)))
       (case side3 => exact HC737.out)
       rintro e w142 ⟨v739, rfl, ho0, hb⟩
       refine ⟨_, rfl, ?_⟩
       have n0_ := Aside0.mk (Kd.V_lower (Kd.V_mono (ok' := fun k_ => k_ ≠ gb687) ho0 (fun k_ hk_ => Or.elim hk_ (fun hs_ => fun e_ => Nat.not_le.2 hs_ (by rw [e_]; exact GW687.out)) (fun hn_ => (Kd.freshB (g := gb687) (o := .cells #[.int .i64 a0_0, .int .i64 a0_1, .int .i64 a0_2, .int .u64 a0_3, .int .u64 a0_4, .int .u64 a0_5] 37 (0, 0)) (by (with_reducible repeat (first | refine blk_drewN ?_ _ | refine blk_drew ?_ | refine blk_alloc ?_ _)); exact BK687.out) k_ hn_)))) (below_size (by repeat (first | (with_reducible first | exact HB.out | apply below_alloc | apply pw_below_drewN | apply below_drew1 | refine below_set ?_ GE687.out) | exact HB.out))))
       have n1_ := Aside0.mk (blk_below (g := gb687) (o := .cells #[.int .i64 a0_0, .int .i64 a0_1, .int .i64 a0_2, .int .u64 a0_3, .int .u64 a0_4, .int .u64 a0_5] 37 (0, 0)) (by (with_reducible repeat (first | refine blk_drewN ?_ _ | refine blk_drew ?_ | refine blk_alloc ?_ _)); exact BK687.out) hb)
       have n2_ := Aside0.mk (below_step (by repeat (first | (with_reducible first | exact HB.out | apply below_alloc | apply pw_below_drewN | apply below_drew1 | refine below_set ?_ GE687.out) | exact HB.out)) hb)
       clear BK687
       clear HB
       have HO740 := n0_
       have BK687 := n1_
       have HB := n2_
       clear n0_ n1_ n2_
       (try clear hb)
       (try clear hb2)
       (try clear hk)
       (try clear hi)
       (try clear ho0)
       obtain ⟨Ao143, co143, eo143⟩ := Kd.V_slice HO740.out
       (first | subst eo143 | (injection eo143 with f1_ f2_ f3_; have f4_ := f1_.symm; have f5_ := f3_.symm; clear f1_ f2_ f3_; subst f4_; subst f5_))
       refine hK.out _ _ ⟨(blk_cell BK687.out 0).trans rfl, (blk_cell BK687.out 1).trans rfl, (blk_cell BK687.out 2).trans rfl, (blk_cell BK687.out 3).trans rfl, (blk_cell BK687.out 4).trans rfl, (blk_cell BK687.out 5).trans rfl⟩ (fun hHeld => ?_)
       clear hK K
       refine norm_ (a' := ?_) ?_ ?_
       rotate_left
       ·show Act.put _ (some 108) _ = _
        simp only [Act.put, sA_, sB_, sC_, i64_w, i32_w]
        rfl
       refine one_ (i := 11) (N := some 112) #[true, true, true, true, true, true, true, true, true, true, true, true, false] rfl rfl (one_of HT_.out (by kernel_rfl)) (by decide) (fun K hK => ?_)
       refine goes_ Tryd.func36 (by kernel_rfl) rfl #[.agg #[.int .i64 a0_0, .int .i64 a0_1, .int .i64 a0_2, .int .u64 a0_3, .int .u64 a0_4, .int .u64 a0_5], .slice Ao143 t738.length co143, .slice A141 y741.length c141, .int .u64 18446744073709551615, .bool true] (by rfl) rfl rfl (by (try simp only [List.map_toArray, List.map_cons, List.map_nil]); first | done | (simp only [Ny741.out]; rfl) | rfl | (simp only [List.length_drop, List.length_take]; rfl)) ?_
       with_reducible refine (spec_Chained.calls kj28 a0_0 a0_1 a0_2 a0_3 a0_4 a0_5 (fun k_ => k_ ≠ gb687) _ _ t738 _ _ y741 18446744073709551615 true t745 _ ?side1 ?side2 ?side3 A110.out).mono ?_
       (case side1 => first | exact HO740.out | exact Kd.V_mono HO740.out (fun k_ hk_ => ⟨⟨hk_.1, hk_.2.1⟩, hk_.2.2⟩))
       (case side2 => repeat (first | exact (Kd.C_below HR744.out HB.out) | (with_reducible refine Kd.C_alloc ?_ _) | (with_reducible refine Kd.C_drewN ?_ _) | (with_reducible refine Kd.C_drew ?_)))
       (case side3 => exact HC744.out)
       rintro e w144 ⟨v746, rfl, ho0, hb⟩
       refine ⟨_, rfl, ?_⟩
       have n0_ := Aside0.mk (Kd.V_below (by (with_reducible repeat (first | apply Kd.V_alloc | apply Kd.V_drewN | apply Kd.V_drew)); exact HO740.out) hb)
       have n1_ := Aside0.mk (Kd.V_lower (Kd.V_mono (ok' := fun k_ => k_ ≠ gb687) ho0 (fun k_ hk_ => Or.elim hk_ (fun hs_ => hs_) (fun hn_ => (Kd.freshB (g := gb687) (o := .cells #[.int .i64 a0_0, .int .i64 a0_1, .int .i64 a0_2, .int .u64 a0_3, .int .u64 a0_4, .int .u64 a0_5] 37 (0, 0)) (by (with_reducible repeat (first | refine blk_drewN ?_ _ | refine blk_drew ?_ | refine blk_alloc ?_ _)); exact BK687.out) k_ hn_)))) (below_size (by repeat (first | (with_reducible first | exact HB.out | apply below_alloc | apply pw_below_drewN | apply below_drew1 | refine below_set ?_ GE687.out) | exact HB.out))))
       have n2_ := Aside0.mk (blk_below (g := gb687) (o := .cells #[.int .i64 a0_0, .int .i64 a0_1, .int .i64 a0_2, .int .u64 a0_3, .int .u64 a0_4, .int .u64 a0_5] 37 (0, 0)) (by (with_reducible repeat (first | refine blk_drewN ?_ _ | refine blk_drew ?_ | refine blk_alloc ?_ _)); exact BK687.out) hb)
       have n3_ := Aside0.mk (below_step (by repeat (first | (with_reducible first | exact HB.out | apply below_alloc | apply pw_below_drewN | apply below_drew1 | refine below_set ?_ GE687.out) | exact HB.out)) hb)
       clear HO740
       clear BK687
       clear HB
       have HO740 := n0_
       have HO747 := n1_
       have BK687 := n2_
       have HB := n3_
       clear n0_ n1_ n2_ n3_
       (try clear hb)
       (try clear hb2)
       (try clear hk)
       (try clear hi)
       (try clear ho0)
       refine hK.out _ _ ⟨(blk_cell BK687.out 0).trans rfl, (blk_cell BK687.out 1).trans rfl, (blk_cell BK687.out 2).trans rfl, (blk_cell BK687.out 3).trans rfl, (blk_cell BK687.out 4).trans rfl, (blk_cell BK687.out 5).trans rfl⟩ (fun hHeld => ?_)
       clear hK K
       refine norm_ (a' := ?_) ?_ ?_
       rotate_left
       ·show Act.put _ (some 112) _ = _
        simp only [Act.put, sA_, sB_, sC_, i64_w, i32_w]
        rfl
       refine pure_ (i := 12) (N := some 20) (v := ?_) (a' := ?_) #[true, true, true, true, true, true, true, true, true, true, true, true, true] rfl rfl (any_of HT_.out (by kernel_rfl)) (fun _ _ _ h => h) (Or.inl ⟨by rfl, ?_⟩) ?_ ?_
       rotate_left
       ·intro w'
        go_simp
        with_reducible rfl
       rotate_left
       ·simp only [Act.put, sA_, sB_, sC_, i64_w, i32_w]
        rfl
       refine done_ (done_of HT_.out (by kernel_rfl)) ?_
       try go_wp2
       have n0_ := Aside0.mk (Kd.V_drew HO740.out)
       have n1_ := Aside0.mk (Kd.V_drew HO747.out)
       have n2_ := Aside0.mk (blk_drew BK687.out)
       have n3_ := Aside0.mk (below_drew1 HB.out)
       clear HO740
       clear HO747
       clear BK687
       clear HB
       have HO740 := n0_
       have HO747 := n1_
       have BK687 := n2_
       have HB := n3_
       clear n0_ n1_ n2_ n3_
       have q146 : (t733 : Int) ≤ ((y729.length : Int) : Int) := of_decide_eq_true (by first | (with_reducible assumption) | assumption)
       obtain ⟨i0146, hi0146, _, hsz146, _⟩ := info_parts info42
       have hroom146 : y729.length ≤ c138 := HC732.out
       have hC146 : Kd.C (Kd.slice 5 (Kd.int .u8)) _ A138 y729.length y729 := HR732.out
       have hcut146 := cut_to (P := Tryd.prog) 38 42 .i64 Tryd.underlying38 hi0146 A138 y729.length c138 t733 (of_decide_eq_true (by first | (with_reducible assumption) | assumption)) q146 hroom146
       have hr146 := Kd.C_take (m := (t733 : Int).toNat) hC146 (by omega)
       have hy146 : y734.length = (t733 : Int).toNat := (by rw [Ny748.out, List.length_take]; omega)
       rw [← Ny748.out] at hr146
       rw [← hy146] at hcut146
       have HR751 := Aside0.mk hr146
       have HC751 := Aside0.mk (show y734.length ≤ c138 from by omega)
       clear hr146 hC146 hroom146 hi0146 hsz146
       have KY146 := Aside0.mk hy146
       clear hy146
       replace q146 := eq_true q146
       have q147 : (t733 : Int) ≤ ((y729.length : Int) : Int) := of_decide_eq_true (by first | (with_reducible assumption) | assumption)
       obtain ⟨i0147, hi0147, _, hsz147, _⟩ := info_parts info42
       have hroom147 : y729.length ≤ c138 := HC732.out
       have hC147 : Kd.C (Kd.slice 5 (Kd.int .u8)) _ A138 y729.length y729 := HR732.out
       have q0147 : (0 : Int) ≤ (t733 : Int) := of_decide_eq_true (by first | (with_reducible assumption) | assumption)
       have hcut147 := cut_from (P := Tryd.prog) 38 42 .i64 Tryd.underlying38 hi0147 1 hsz147 A138 y729.length c138 t733 q0147 q147
       have hr147 := Kd.C_drop (m := (t733 : Int).toNat) (c := c138) hC147 (by omega) hroom147
       have hA147 : A141 = (if c138 = (t733 : Int).toNat then A138 else (A138 : Option Addr).map (·.add ((t733 : Int).toNat * 1))) := KA141.out
       have hc147 : c141 = c138 - (t733 : Int).toNat := KC141.out
       have hy147 : y741.length = y729.length - (t733 : Int).toNat := (by rw [Ny755.out, List.length_drop] <;> omega)
       rw [show (y729).drop (t733 : Int).toNat = y741 from Ny755.out.symm] at hr147
       replace hr147 : Kd.C (Kd.slice 5 (Kd.int .u8)) _ A141 y741.length y741 := (by rw [hA147]; exact hr147)
       rw [← hy147, ← hA147, ← hc147] at hcut147
       have HR758 := Aside0.mk hr147
       have HC758 := Aside0.mk (show y741.length ≤ c141 from by rw [hy147, hc147]; exact Nat.sub_le_sub_right hroom147 _)
       clear hr147 hC147 hroom147 hi0147 hsz147 hc147
       have KY147 := Aside0.mk hy147
       have KA147 := Aside0.mk hA147
       clear hy147 hA147
       replace q147 := eq_true q147
       refine start_ (n := 13) (S := fun w' => w'.cell? ⟨gb687, 0, none⟩ = some (.int .i64 a0_0) ∧ w'.cell? ⟨gb687, 1, none⟩ = some (.int .i64 a0_1) ∧ w'.cell? ⟨gb687, 2, none⟩ = some (.int .i64 a0_2) ∧ w'.cell? ⟨gb687, 3, none⟩ = some (.int .u64 a0_3) ∧ w'.cell? ⟨gb687, 4, none⟩ = some (.int .u64 a0_4) ∧ w'.cell? ⟨gb687, 5, none⟩ = some (.int .u64 a0_5)) (ds := []) #[false, false, false, false, false, false, false, false, false, false, false, false, false] (by kernel_rfl) rfl rfl ⟨(blk_cell BK687.out 0).trans rfl, (blk_cell BK687.out 1).trans rfl, (blk_cell BK687.out 2).trans rfl, (blk_cell BK687.out 3).trans rfl, (blk_cell BK687.out 4).trans rfl, (blk_cell BK687.out 5).trans rfl⟩ (fun hHeld => ?_); refine with_tabW laws_FnVerifyConsistencyFar.tab16 laws_FnVerifyConsistencyFar.bits16 (fun HT_ HW_ => ?_)
       generalize w144.drew = w145 at HO740 HO747 BK687 HB HR751 HR758 hHeld ⊢
       refine pure_ (i := 2) (N := some 115) (v := ?_) (a' := ?_) #[false, false, true, false, false, false, false, false, false, false, false, false, false] rfl rfl (any_of HT_.out (by kernel_rfl)) (fun _ _ _ h => h) (Or.inl ⟨by rfl, ?_⟩) ?_ ?_
       rotate_left
       ·intro w'
        go_simp
        with_reducible rfl
       rotate_left
       ·simp only [Act.put, sA_, sB_, sC_, i64_w, i32_w]
        rfl
       refine pure_ (i := 3) (N := some 116) (v := ?_) (a' := ?_) #[false, false, true, true, false, false, false, false, false, false, false, false, false] rfl rfl (any_of HT_.out (by kernel_rfl)) (fun _ _ _ h => h) (Or.inl ⟨by rfl, ?_⟩) ?_ ?_
       rotate_left
       ·intro w'
        go_simp
        with_reducible rfl
       rotate_left
       ·simp only [Act.put, sA_, sB_, sC_, i64_w, i32_w]
        rfl
       refine pure_ (i := 4) (N := some 117) (v := ?_) (a' := ?_) #[false, false, true, true, true, false, false, false, false, false, false, false, false] rfl rfl (any_of HT_.out (by kernel_rfl)) (fun _ _ _ h => h) (Or.inl ⟨by rfl, ?_⟩) ?_ ?_
       rotate_left
       ·intro w'
        go_simp
        with_reducible rfl
       rotate_left
       ·simp only [Act.put, sA_, sB_, sC_, i64_w, i32_w]
        rfl
       refine pure_ (i := 5) (N := some 118) (v := ?_) (a' := ?_) #[false, false, true, true, true, true, false, false, false, false, false, false, false] rfl rfl (any_of HT_.out (by kernel_rfl)) (fun _ _ _ h => h) (Or.inl ⟨by rfl, ?_⟩) ?_ ?_
       rotate_left
       ·intro w'
        go_simp
        with_reducible rfl
       rotate_left
       ·simp only [Act.put, sA_, sB_, sC_, i64_w, i32_w]
        rfl
       refine pure_ (i := 6) (N := some 119) (v := ?_) (a' := ?_) #[false, false, true, true, true, true, true, false, false, false, false, false, false] rfl rfl (any_of HT_.out (by kernel_rfl)) (fun _ _ _ h => h) (Or.inl ⟨by rfl, ?_⟩) ?_ ?_
       rotate_left
       ·intro w'
        go_simp
        with_reducible rfl
       rotate_left
       ·simp only [Act.put, sA_, sB_, sC_, i64_w, i32_w]
        rfl
       refine pure_ (i := 8) (N := some 121) (v := ?_) (a' := ?_) #[false, false, true, true, true, true, true, false, true, false, false, false, false] rfl rfl (any_of HT_.out (by kernel_rfl)) (fun _ _ _ h => h) (Or.inl ⟨by rfl, ?_⟩) ?_ ?_
       rotate_left
       ·intro w'
        go_simp
        with_reducible rfl
       rotate_left
       ·simp only [Act.put, sA_, sB_, sC_, i64_w, i32_w]
        rfl
       refine pure_ (i := 9) (N := some 122) (v := ?_) (a' := ?_) #[false, false, true, true, true, true, true, false, true, true, false, false, false] rfl rfl (any_of HT_.out (by kernel_rfl)) (fun _ _ _ h => h) (Or.inl ⟨by rfl, ?_⟩) ?_ ?_
       rotate_left
       ·intro w'
        go_simp
        with_reducible rfl
       rotate_left
       ·simp only [Act.put, sA_, sB_, sC_, i64_w, i32_w]
        rfl
       refine pure_ (i := 10) (N := some 123) (v := ?_) (a' := ?_) #[false, false, true, true, true, true, true, false, true, true, true, false, false] rfl rfl (any_of HT_.out (by kernel_rfl)) (fun _ _ _ h => h) (Or.inl ⟨by rfl, ?_⟩) ?_ ?_
       rotate_left
       ·intro w'
        go_simp
        with_reducible rfl
       rotate_left
       ·simp only [Act.put, sA_, sB_, sC_, i64_w, i32_w]
        rfl
       refine take_ (i := 0) (N := some 113) (v := ?_) (a' := ?_) #[true, false, true, true, true, true, true, false, true, true, true, false, false] rfl rfl (take_ofW HT_.out HW_.out (by kernel_rfl)) (fun _ _ _ h => h) (Or.inl ⟨by rfl, ?_⟩) hHeld ?_ ?_
       rotate_left
       ·rintro w' ⟨s0, s1, s2, s3, s4, s5⟩
        go_simp
        with_reducible rfl
       rotate_left
       ·simp only [Act.put, sA_, sB_, sC_, i64_w, i32_w]
        rfl
       refine take_ (i := 1) (N := some 114) (v := ?_) (a' := ?_) #[true, true, true, true, true, true, true, false, true, true, true, false, false] rfl rfl (take_ofW HT_.out HW_.out (by kernel_rfl)) (fun _ _ _ h => h) (Or.inl ⟨by rfl, ?_⟩) hHeld ?_ ?_
       rotate_left
       ·rintro w' ⟨s0, s1, s2, s3, s4, s5⟩
        go_simp
        with_reducible rfl
       rotate_left
       ·simp only [Act.put, sA_, sB_, sC_, i64_w, i32_w]
        rfl
       refine one_ (i := 7) (N := some 120) #[true, true, true, true, true, true, true, true, true, true, true, false, false] rfl rfl (one_of HT_.out (by kernel_rfl)) (by decide) (fun K hK => ?_)
       refine goes_ Tryd.func36 (by kernel_rfl) rfl #[.agg #[.int .i64 a0_0, .int .i64 a0_1, .int .i64 a0_2, .int .u64 a0_3, .int .u64 a0_4, .int .u64 a0_5], .slice A728_0 (rd_L4 l3 0).length c728_0, .slice A138 y734.length c138, .int .u64 ji101, .bool false] (by rfl) rfl rfl (by (try simp only [List.map_toArray, List.map_cons, List.map_nil]); first | done | (simp only [Ny748.out]; rfl) | (simp only [Ny748.out, hji101]; rfl) | (simp only [hji101]; rfl) | rfl | (simp only [List.length_drop, List.length_take]; rfl)) ?_
       with_reducible refine (spec_Chained.calls kj28 a0_0 a0_1 a0_2 a0_3 a0_4 a0_5 (fun k_ => k_ < w.heap.size) _ _ (rd_L4 l3 0) _ _ y734 ji101 false t752 _ ?side1 ?side2 ?side3 A113.out).mono ?_
       (case side1 => exact Kd.V_mk HC728_0.out (Kd.F_below (Kd.C_F (Kd.heap_int .u8) HR728_0.out) (by repeat (first | (with_reducible first | exact HB.out | apply below_alloc | apply pw_below_drewN | apply below_drew1 | refine below_set ?_ GE687.out) | exact HB.out))))
       (case side2 => repeat (first | exact (Kd.C_below HR751.out HB.out) | (with_reducible refine Kd.C_alloc ?_ _) | (with_reducible refine Kd.C_drewN ?_ _) | (with_reducible refine Kd.C_drew ?_)))
       (case side3 => exact HC751.out)
       rintro e w148 ⟨v753, rfl, ho0, hb⟩
       refine ⟨_, rfl, ?_⟩
       have n0_ := Aside0.mk (Kd.V_below (by (with_reducible repeat (first | apply Kd.V_alloc | apply Kd.V_drewN | apply Kd.V_drew)); exact HO740.out) hb)
       have n1_ := Aside0.mk (Kd.V_below (by (with_reducible repeat (first | apply Kd.V_alloc | apply Kd.V_drewN | apply Kd.V_drew)); exact HO747.out) hb)
       have n2_ := Aside0.mk (Kd.V_lower (Kd.V_mono (ok' := fun k_ => k_ ≠ gb687) ho0 (fun k_ hk_ => Or.elim hk_ (fun hs_ => fun e_ => Nat.not_le.2 hs_ (by rw [e_]; exact GW687.out)) (fun hn_ => (Kd.freshB (g := gb687) (o := .cells #[.int .i64 a0_0, .int .i64 a0_1, .int .i64 a0_2, .int .u64 a0_3, .int .u64 a0_4, .int .u64 a0_5] 37 (0, 0)) (by (with_reducible repeat (first | refine blk_drewN ?_ _ | refine blk_drew ?_ | refine blk_alloc ?_ _)); exact BK687.out) k_ hn_)))) (below_size (by repeat (first | (with_reducible first | exact HB.out | apply below_alloc | apply pw_below_drewN | apply below_drew1 | refine below_set ?_ GE687.out) | exact HB.out))))
       have n3_ := Aside0.mk (blk_below (g := gb687) (o := .cells #[.int .i64 a0_0, .int .i64 a0_1, .int .i64 a0_2, .int .u64 a0_3, .int .u64 a0_4, .int .u64 a0_5] 37 (0, 0)) (by (with_reducible repeat (first | refine blk_drewN ?_ _ | refine blk_drew ?_ | refine blk_alloc ?_ _)); exact BK687.out) hb)
       have n4_ := Aside0.mk (below_step (by repeat (first | (with_reducible first | exact HB.out | apply below_alloc | apply pw_below_drewN | apply below_drew1 | refine below_set ?_ GE687.out) | exact HB.out)) hb)
       clear HO740
       clear HO747
       clear BK687
       clear HB
       have HO740 := n0_
       have HO747 := n1_
       have HO754 := n2_
       have BK687 := n3_
       have HB := n4_
       clear n0_ n1_ n2_ n3_ n4_
       (try clear hb)
       (try clear hb2)
       (try clear hk)
       (try clear hi)
       (try clear ho0)
       obtain ⟨Ao149, co149, eo149⟩ := Kd.V_slice HO754.out
       (first | subst eo149 | (injection eo149 with f1_ f2_ f3_; have f4_ := f1_.symm; have f5_ := f3_.symm; clear f1_ f2_ f3_; subst f4_; subst f5_))
       refine hK.out _ _ ⟨(blk_cell BK687.out 0).trans rfl, (blk_cell BK687.out 1).trans rfl, (blk_cell BK687.out 2).trans rfl, (blk_cell BK687.out 3).trans rfl, (blk_cell BK687.out 4).trans rfl, (blk_cell BK687.out 5).trans rfl⟩ (fun hHeld => ?_)
       clear hK K
       refine norm_ (a' := ?_) ?_ ?_
       rotate_left
       ·show Act.put _ (some 120) _ = _
        simp only [Act.put, sA_, sB_, sC_, i64_w, i32_w]
        rfl
       refine one_ (i := 11) (N := some 124) #[true, true, true, true, true, true, true, true, true, true, true, true, false] rfl rfl (one_of HT_.out (by kernel_rfl)) (by decide) (fun K hK => ?_)
       refine goes_ Tryd.func36 (by kernel_rfl) rfl #[.agg #[.int .i64 a0_0, .int .i64 a0_1, .int .i64 a0_2, .int .u64 a0_3, .int .u64 a0_4, .int .u64 a0_5], .slice Ao149 t752.length co149, .slice A141 y741.length c141, .int .u64 18446744073709551615, .bool true] (by rfl) rfl rfl (by (try simp only [List.map_toArray, List.map_cons, List.map_nil]); first | done | (simp only [Ny755.out]; rfl) | rfl | (simp only [List.length_drop, List.length_take]; rfl)) ?_
       with_reducible refine (spec_Chained.calls kj28 a0_0 a0_1 a0_2 a0_3 a0_4 a0_5 (fun k_ => k_ ≠ gb687) _ _ t752 _ _ y741 18446744073709551615 true t759 _ ?side1 ?side2 ?side3 A116.out).mono ?_
       (case side1 => first | exact HO754.out | exact Kd.V_mono HO754.out (fun k_ hk_ => ⟨⟨hk_.1, hk_.2.1⟩, hk_.2.2⟩))
       (case side2 => repeat (first | exact (Kd.C_below HR758.out HB.out) | (with_reducible refine Kd.C_alloc ?_ _) | (with_reducible refine Kd.C_drewN ?_ _) | (with_reducible refine Kd.C_drew ?_)))
       (case side3 => exact HC758.out)
       rintro e w150 ⟨v760, rfl, ho0, hb⟩
       refine ⟨_, rfl, ?_⟩
       have n0_ := Aside0.mk (Kd.V_below (by (with_reducible repeat (first | apply Kd.V_alloc | apply Kd.V_drewN | apply Kd.V_drew)); exact HO740.out) hb)
       have n1_ := Aside0.mk (Kd.V_below (by (with_reducible repeat (first | apply Kd.V_alloc | apply Kd.V_drewN | apply Kd.V_drew)); exact HO747.out) hb)
       have n2_ := Aside0.mk (Kd.V_below (by (with_reducible repeat (first | apply Kd.V_alloc | apply Kd.V_drewN | apply Kd.V_drew)); exact HO754.out) hb)
       have n3_ := Aside0.mk (Kd.V_lower (Kd.V_mono (ok' := fun k_ => k_ ≠ gb687) ho0 (fun k_ hk_ => Or.elim hk_ (fun hs_ => hs_) (fun hn_ => (Kd.freshB (g := gb687) (o := .cells #[.int .i64 a0_0, .int .i64 a0_1, .int .i64 a0_2, .int .u64 a0_3, .int .u64 a0_4, .int .u64 a0_5] 37 (0, 0)) (by (with_reducible repeat (first | refine blk_drewN ?_ _ | refine blk_drew ?_ | refine blk_alloc ?_ _)); exact BK687.out) k_ hn_)))) (below_size (by repeat (first | (with_reducible first | exact HB.out | apply below_alloc | apply pw_below_drewN | apply below_drew1 | refine below_set ?_ GE687.out) | exact HB.out))))
       have n4_ := Aside0.mk (blk_below (g := gb687) (o := .cells #[.int .i64 a0_0, .int .i64 a0_1, .int .i64 a0_2, .int .u64 a0_3, .int .u64 a0_4, .int .u64 a0_5] 37 (0, 0)) (by (with_reducible repeat (first | refine blk_drewN ?_ _ | refine blk_drew ?_ | refine blk_alloc ?_ _)); exact BK687.out) hb)
       have n5_ := Aside0.mk (below_step (by repeat (first | (with_reducible first | exact HB.out | apply below_alloc | apply pw_below_drewN | apply below_drew1 | refine below_set ?_ GE687.out) | exact HB.out)) hb)
       clear HO740
       clear HO747
       clear HO754
       clear BK687
       clear HB
       have HO740 := n0_
       have HO747 := n1_
       have HO754 := n2_
       have HO761 := n3_
       have BK687 := n4_
       have HB := n5_
       clear n0_ n1_ n2_ n3_ n4_ n5_
       (try clear hb)
       (try clear hb2)
       (try clear hk)
       (try clear hi)
       (try clear ho0)
       refine hK.out _ _ ⟨(blk_cell BK687.out 0).trans rfl, (blk_cell BK687.out 1).trans rfl, (blk_cell BK687.out 2).trans rfl, (blk_cell BK687.out 3).trans rfl, (blk_cell BK687.out 4).trans rfl, (blk_cell BK687.out 5).trans rfl⟩ (fun hHeld => ?_)
       clear hK K
       refine norm_ (a' := ?_) ?_ ?_
       rotate_left
       ·show Act.put _ (some 124) _ = _
        simp only [Act.put, sA_, sB_, sC_, i64_w, i32_w]
        rfl
       refine pure_ (i := 12) (N := some 21) (v := ?_) (a' := ?_) #[true, true, true, true, true, true, true, true, true, true, true, true, true] rfl rfl (any_of HT_.out (by kernel_rfl)) (fun _ _ _ h => h) (Or.inl ⟨by rfl, ?_⟩) ?_ ?_
       rotate_left
       ·intro w'
        go_simp
        with_reducible rfl
       rotate_left
       ·simp only [Act.put, sA_, sB_, sC_, i64_w, i32_w]
        rfl
       refine done_ (done_of HT_.out (by kernel_rfl)) ?_
       obtain ⟨Ao151, co151, eo151⟩ := Kd.V_slice HO747.out
       subst eo151
       try go_wp2_with (first | ((with_reducible refine gate_callee (f := 25) rfl ?_); refine goesL_ (some 127) rfl rfl Tryd.func25 (by kernel_rfl) rfl #[.slice Ao151 t745.length co151, .slice A4 l4.length c4] rfl (by (try simp only [List.map_toArray, List.map_cons, List.map_nil]); first | done | rfl | (simp only [List.length_drop, List.length_take]; rfl)) ?_; (with_reducible refine (spec_SameText.calls _ _ t745 _ _ l4 true _ ?side1 ?side2 ?side3 ?side4 A117.out).mono ?_); (case side1 => repeat (first | exact (Kd.V_reads' HO747.out).2.2 | (with_reducible refine Kd.C_alloc ?_ _) | (with_reducible refine Kd.C_drewN ?_ _) | (with_reducible refine Kd.C_drew ?_))); (case side2 => exact (Kd.V_reads' HO747.out).2.1); (case side3 => repeat (first | exact (Kd.C_below HR4.out HB.out) | (with_reducible refine Kd.C_alloc ?_ _) | (with_reducible refine Kd.C_drewN ?_ _) | (with_reducible refine Kd.C_drew ?_))); (case side4 => exact HC4.out); rintro e w' ⟨rfl, ⟨nd, rfl⟩⟩; refine ⟨_, rfl, ?_⟩; obtain ⟨Ao152, co152, eo152⟩ := Kd.V_slice HO761.out; subst eo152) | (go_at_call 25; (with_reducible refine (spec_SameText.calls _ _ t759 _ _ l5 false _ ?side1 ?side2 ?side3 ?side4 A119.out).mono ?_); (case side1 => repeat (first | exact (Kd.V_reads' HO761.out).2.2 | (with_reducible refine Kd.C_alloc ?_ _) | (with_reducible refine Kd.C_drewN ?_ _) | (with_reducible refine Kd.C_drew ?_))); (case side2 => exact (Kd.V_reads' HO761.out).2.1); (case side3 => repeat (first | exact (Kd.C_below HR5.out (by repeat (first | (with_reducible first | exact HB.out | apply below_alloc | apply pw_below_drewN | apply below_drew1 | refine below_set ?_ GE687.out) | exact HB.out))) | (with_reducible refine Kd.C_alloc ?_ _) | (with_reducible refine Kd.C_drewN ?_ _) | (with_reducible refine Kd.C_drew ?_))); (case side4 => exact HC5.out); rintro e w' ⟨rfl, ⟨nd, rfl⟩⟩))
       go_ret
       exact ⟨by first | rfl | (simp [errW_none, errW_some] <;> rfl) | (simp only [← hji34, ← hji101, ← hji103]; first | rfl | (simp [errW_none, errW_some] <;> rfl)) | (simp [*, errW_none, errW_some] <;> rfl), by repeat (first | (with_reducible first | exact HB.out | apply below_alloc | apply pw_below_drewN | apply below_drew1 | refine below_set ?_ GE687.out) | exact HB.out)⟩
      replace c118 := Bool.eq_false_iff.mpr c118
      subst c118
      have H1 : (some (t690 == 1)) = some r := by rw [if_neg (show ¬ (false = true) by decide)] at H; exact H
      clear H
      have H := H1
      clear H1
      obtain rfl := Option.some.inj H
      try go_wp2
      have n0_ := Aside0.mk (blk_drew BK687.out)
      have n1_ := Aside0.mk (below_drew1 HB.out)
      clear BK687
      clear HB
      have BK687 := n0_
      have HB := n1_
      clear n0_ n1_
      have p728 : 0 ≤ (0 : Int) := (by omega)
      have q728 : 0 < (l3.length : Int) := of_decide_eq_true (by first | (with_reducible assumption) | assumption)
      obtain ⟨ad728, A728_0, c728_0, e728, hx728_0, hl728_0, hi728_0⟩ := at_L4 HR3.out 0 p728 q728
      have hw728_0 := hx728_0
      (try rw [show ((0 : Int)).toNat = 0 from rfl] at hw728_0)
      (try rw [show 0 * 1 = 0 from rfl] at hw728_0)
      (try rw [Addr.add_zero'] at hw728_0)
      cases e728
      have qi728 : (0 < l3.length) = True := eq_true (by omega)
      (try rw [show ((0 : Int)).toNat = 0 from rfl] at hx728_0)
      (try rw [Addr.add_zero'] at hx728_0)
      replace hx728_0 := (HB.out.cell (World.block_lt_of_cell? w _ hx728_0)).trans hx728_0
      have HR728_0 := Aside0.mk hi728_0
      have HC728_0 := Aside0.mk hl728_0
      clear hi728_0 hl728_0
      replace p728 := eq_true p728
      replace q728 := eq_true q728
      have q154 : (1 : Int) ≤ ((l3.length : Int) : Int) := of_decide_eq_true (by first | (with_reducible assumption) | assumption)
      obtain ⟨i0154, hi0154, _, hsz154, _⟩ := info_parts info42
      have hroom154 : l3.length ≤ c3 := HC3.out
      have hC154 : Kd.C (Kd.slice 5 (Kd.int .u8)) _ (some ad728) l3.length l3 := HR3.out
      have hcut154 := cut_from (P := Tryd.prog) 38 42 .i64 Tryd.underlying38 hi0154 1 hsz154 (some ad728) l3.length c3 1 (by omega) q154
      have hr154 := Kd.C_drop (m := (1 : Int).toNat) (c := c3) hC154 (by omega) hroom154
      obtain ⟨A154, hA154⟩ : ∃ A1q_, A1q_ = (if c3 = (1 : Int).toNat then (some ad728) else ((some ad728) : Option Addr).map (·.add ((1 : Int).toNat * 1))) := ⟨_, rfl⟩
      obtain ⟨c154, hc154⟩ : ∃ c1q_, c1q_ = c3 - (1 : Int).toNat := ⟨_, rfl⟩
      have hy154 : y729.length = l3.length - (1 : Int).toNat := (by rw [Ny729.out, List.length_drop] <;> omega)
      rw [show (l3).drop (1 : Int).toNat = y729 from Ny729.out.symm] at hr154
      replace hr154 : Kd.C (Kd.slice 5 (Kd.int .u8)) _ A154 y729.length y729 := (by rw [hA154]; exact hr154)
      rw [← hy154, ← hA154, ← hc154] at hcut154
      have HR732 := Aside0.mk hr154
      have HC732 := Aside0.mk (show y729.length ≤ c154 from by rw [hy154, hc154]; exact Nat.sub_le_sub_right hroom154 _)
      clear hr154 hC154 hroom154 hi0154 hsz154
      have KC154 := Aside0.mk hc154
      clear hc154
      have KY154 := Aside0.mk hy154
      have KA154 := Aside0.mk hA154
      clear hy154 hA154
      replace q154 := eq_true q154
      refine start_ (n := 7) (S := fun w' => w'.cell? ad728 = some (.slice A728_0 (rd_L4 l3 0).length c728_0)) (ds := []) #[false, false, false, false, false, false, false] (by kernel_rfl) rfl rfl (((HB.out.cell (World.block_lt_of_cell? w _ hw728_0)).trans hw728_0)) (fun hHeld => ?_)
      generalize wc.drew = w153 at BK687 HB HR728_0 HR732 hx728_0 hHeld ⊢
      refine pure_ (i := 0) (N := some 85) (v := ?_) (a' := ?_) #[true, false, false, false, false, false, false] rfl rfl (by kernel_rfl) (fun _ _ _ h => h) (Or.inl ⟨by rfl, ?_⟩) ?_ ?_
      rotate_left
      ·intro w'
       go_simp
       with_reducible rfl
      rotate_left
      ·simp only [Act.put, sA_, sB_, sC_, i64_w, i32_w]
       rfl
      refine pure_ (i := 1) (N := some 86) (v := ?_) (a' := ?_) #[true, true, false, false, false, false, false] rfl rfl (by kernel_rfl) (fun _ _ _ h => h) (Or.inl ⟨by rfl, ?_⟩) ?_ ?_
      rotate_left
      ·intro w'
       go_simp
       with_reducible rfl
      rotate_left
      ·simp only [Act.put, sA_, sB_, sC_, i64_w, i32_w]
       rfl
      refine pure_ (i := 3) (N := some 88) (v := ?_) (a' := ?_) #[true, true, false, true, false, false, false] rfl rfl (by kernel_rfl) (fun _ _ _ h => h) (Or.inl ⟨by rfl, ?_⟩) ?_ ?_
      rotate_left
      ·intro w'
       go_simp
       with_reducible rfl
      rotate_left
      ·simp only [Act.put, sA_, sB_, sC_, i64_w, i32_w]
       rfl
      refine pure_ (i := 4) (N := some 89) (v := ?_) (a' := ?_) #[true, true, false, true, true, false, false] rfl rfl (by kernel_rfl) (fun _ _ _ h => h) (Or.inl ⟨by rfl, ?_⟩) ?_ ?_
      rotate_left
      ·intro w'
       go_simp
       with_reducible rfl
      rotate_left
      ·simp only [Act.put, sA_, sB_, sC_, i64_w, i32_w]
       rfl
      refine take_ (i := 2) (N := some 87) (v := ?_) (a' := ?_) #[true, true, true, true, true, false, false] rfl rfl (by kernel_rfl) (fun _ _ _ h => h) (Or.inl ⟨by rfl, ?_⟩) hHeld ?_ ?_
      rotate_left
      ·intro w' s0
       go_simp
       with_reducible rfl
      rotate_left
      ·simp only [Act.put, sA_, sB_, sC_, i64_w, i32_w]
       rfl
      refine pure_ (i := 5) (N := some 16) (v := ?_) (a' := ?_) #[true, true, true, true, true, true, false] rfl rfl (by kernel_rfl) (fun _ _ _ h => h) (Or.inl ⟨by rfl, ?_⟩) ?_ ?_
      rotate_left
      ·intro w'
       go_simp
       with_reducible rfl
      rotate_left
      ·simp only [Act.put, sA_, sB_, sC_, i64_w, i32_w]
       rfl
      refine pure_ (i := 6) (N := some 17) (v := ?_) (a' := ?_) #[true, true, true, true, true, true, true] rfl rfl (by kernel_rfl) (fun _ _ _ h => h) (Or.inl ⟨by rfl, ?_⟩) ?_ ?_
      rotate_left
      ·intro w'
       go_simp
       with_reducible rfl
      rotate_left
      ·simp only [Act.put, sA_, sB_, sC_, i64_w, i32_w]
       rfl
      refine done_ (by kernel_rfl) ?_
      try go_wp2_with (first | ((with_reducible refine gate_callee (f := 35) rfl ?_); refine goesL_ (some 100) rfl rfl Tryd.func35 (by kernel_rfl) rfl #[.int .u64 ji101, .int .u64 (IntKind.u64.wrap ((ji103) + 1))] rfl (by (try simp only [List.map_toArray, List.map_cons, List.map_nil]); first | done | (simp only [hji101, hji103]; rfl) | rfl | (simp only [List.length_drop, List.length_take]; rfl)) ?_; (with_reducible refine (spec_Inner.calls kj28 ji101 (IntKind.u64.wrap ((ji103) + 1)) t733 _ A104.out).mono ?_); rintro e w' ⟨rfl, ⟨nd, rfl⟩⟩; refine ⟨_, rfl, ?_⟩))
      (try (rw [drewN_self w153]; generalize hq_ : World.drewN w153 _ = w153; have n0_ : Aside0 (w153.heap[gb687]? = some (.cells #[.int .i64 a0_0, .int .i64 a0_1, .int .i64 a0_2, .int .u64 a0_3, .int .u64 a0_4, .int .u64 a0_5] 37 (0, 0))) := ⟨by rw [← hq_]; exact (by (with_reducible repeat (first | refine blk_drewN ?_ _ | refine blk_drew ?_ | refine blk_alloc ?_ _)); exact BK687.out)⟩; have n1_ : Aside0 (Below w.heap.size w w153) := ⟨by rw [← hq_]; exact (by repeat (first | (with_reducible first | exact HB.out | apply below_alloc | apply pw_below_drewN | apply below_drew1 | refine below_set ?_ GE687.out) | exact HB.out))⟩; clear BK687 HB hq_; have BK687 := n0_; have HB := n1_; clear n0_ n1_))
      have n0_ := Aside0.mk (blk_drew BK687.out)
      have n1_ := Aside0.mk (below_drew1 HB.out)
      clear BK687
      clear HB
      have BK687 := n0_
      have HB := n1_
      clear n0_ n1_
      have q156 : (t733 : Int) ≤ ((y729.length : Int) : Int) := of_decide_eq_true (by first | (with_reducible assumption) | assumption)
      obtain ⟨i0156, hi0156, _, hsz156, _⟩ := info_parts info42
      have hroom156 : y729.length ≤ c154 := HC732.out
      have hC156 : Kd.C (Kd.slice 5 (Kd.int .u8)) _ A154 y729.length y729 := HR732.out
      have hcut156 := cut_to (P := Tryd.prog) 38 42 .i64 Tryd.underlying38 hi0156 A154 y729.length c154 t733 (of_decide_eq_true (by first | (with_reducible assumption) | assumption)) q156 hroom156
      have hr156 := Kd.C_take (m := (t733 : Int).toNat) hC156 (by omega)
      have hy156 : y734.length = (t733 : Int).toNat := (by rw [Ny734.out, List.length_take]; omega)
      rw [← Ny734.out] at hr156
      rw [← hy156] at hcut156
      have HR737 := Aside0.mk hr156
      have HC737 := Aside0.mk (show y734.length ≤ c154 from by omega)
      clear hr156 hC156 hroom156 hi0156 hsz156
      have KY156 := Aside0.mk hy156
      clear hy156
      replace q156 := eq_true q156
      have q157 : (t733 : Int) ≤ ((y729.length : Int) : Int) := of_decide_eq_true (by first | (with_reducible assumption) | assumption)
      obtain ⟨i0157, hi0157, _, hsz157, _⟩ := info_parts info42
      have hroom157 : y729.length ≤ c154 := HC732.out
      have hC157 : Kd.C (Kd.slice 5 (Kd.int .u8)) _ A154 y729.length y729 := HR732.out
      have q0157 : (0 : Int) ≤ (t733 : Int) := of_decide_eq_true (by first | (with_reducible assumption) | assumption)
      have hcut157 := cut_from (P := Tryd.prog) 38 42 .i64 Tryd.underlying38 hi0157 1 hsz157 A154 y729.length c154 t733 q0157 q157
      have hr157 := Kd.C_drop (m := (t733 : Int).toNat) (c := c154) hC157 (by omega) hroom157
      obtain ⟨A157, hA157⟩ : ∃ A1q_, A1q_ = (if c154 = (t733 : Int).toNat then A154 else (A154 : Option Addr).map (·.add ((t733 : Int).toNat * 1))) := ⟨_, rfl⟩
      obtain ⟨c157, hc157⟩ : ∃ c1q_, c1q_ = c154 - (t733 : Int).toNat := ⟨_, rfl⟩
      have hy157 : y741.length = y729.length - (t733 : Int).toNat := (by rw [Ny741.out, List.length_drop] <;> omega)
      rw [show (y729).drop (t733 : Int).toNat = y741 from Ny741.out.symm] at hr157
      replace hr157 : Kd.C (Kd.slice 5 (Kd.int .u8)) _ A157 y741.length y741 := (by rw [hA157]; exact hr157)
      rw [← hy157, ← hA157, ← hc157] at hcut157
      have HR744 := Aside0.mk hr157
      have HC744 := Aside0.mk (show y741.length ≤ c157 from by rw [hy157, hc157]; exact Nat.sub_le_sub_right hroom157 _)
      clear hr157 hC157 hroom157 hi0157 hsz157
      have KC157 := Aside0.mk hc157
      clear hc157
      have KY157 := Aside0.mk hy157
      have KA157 := Aside0.mk hA157
      clear hy157 hA157
      replace q157 := eq_true q157
      refine start_ (n := 13) (S := fun w' => w'.cell? ⟨gb687, 0, none⟩ = some (.int .i64 a0_0) ∧ w'.cell? ⟨gb687, 1, none⟩ = some (.int .i64 a0_1) ∧ w'.cell? ⟨gb687, 2, none⟩ = some (.int .i64 a0_2) ∧ w'.cell? ⟨gb687, 3, none⟩ = some (.int .u64 a0_3) ∧ w'.cell? ⟨gb687, 4, none⟩ = some (.int .u64 a0_4) ∧ w'.cell? ⟨gb687, 5, none⟩ = some (.int .u64 a0_5)) (ds := []) #[false, false, false, false, false, false, false, false, false, false, false, false, false] (by kernel_rfl) rfl rfl ⟨(blk_cell BK687.out 0).trans rfl, (blk_cell BK687.out 1).trans rfl, (blk_cell BK687.out 2).trans rfl, (blk_cell BK687.out 3).trans rfl, (blk_cell BK687.out 4).trans rfl, (blk_cell BK687.out 5).trans rfl⟩ (fun hHeld => ?_); refine with_tabW laws_FnVerifyConsistencyFar.tab15 laws_FnVerifyConsistencyFar.bits15 (fun HT_ HW_ => ?_)
      generalize w153.drew = w155 at BK687 HB HR737 HR744 hHeld ⊢
      refine pure_ (i := 2) (N := some 103) (v := ?_) (a' := ?_) #[false, false, true, false, false, false, false, false, false, false, false, false, false] rfl rfl (any_of HT_.out (by kernel_rfl)) (fun _ _ _ h => h) (Or.inl ⟨by rfl, ?_⟩) ?_ ?_
      rotate_left
      ·intro w'
       go_simp
       with_reducible rfl
      rotate_left
      ·simp only [Act.put, sA_, sB_, sC_, i64_w, i32_w]
       rfl
      refine pure_ (i := 3) (N := some 104) (v := ?_) (a' := ?_) #[false, false, true, true, false, false, false, false, false, false, false, false, false] rfl rfl (any_of HT_.out (by kernel_rfl)) (fun _ _ _ h => h) (Or.inl ⟨by rfl, ?_⟩) ?_ ?_
      rotate_left
      ·intro w'
       go_simp
       with_reducible rfl
      rotate_left
      ·simp only [Act.put, sA_, sB_, sC_, i64_w, i32_w]
       rfl
      refine pure_ (i := 4) (N := some 105) (v := ?_) (a' := ?_) #[false, false, true, true, true, false, false, false, false, false, false, false, false] rfl rfl (any_of HT_.out (by kernel_rfl)) (fun _ _ _ h => h) (Or.inl ⟨by rfl, ?_⟩) ?_ ?_
      rotate_left
      ·intro w'
       go_simp
       with_reducible rfl
      rotate_left
      ·simp only [Act.put, sA_, sB_, sC_, i64_w, i32_w]
       rfl
      refine pure_ (i := 5) (N := some 106) (v := ?_) (a' := ?_) #[false, false, true, true, true, true, false, false, false, false, false, false, false] rfl rfl (any_of HT_.out (by kernel_rfl)) (fun _ _ _ h => h) (Or.inl ⟨by rfl, ?_⟩) ?_ ?_
      rotate_left
      ·intro w'
       go_simp
       with_reducible rfl
      rotate_left
      ·simp only [Act.put, sA_, sB_, sC_, i64_w, i32_w]
       rfl
      refine pure_ (i := 6) (N := some 107) (v := ?_) (a' := ?_) #[false, false, true, true, true, true, true, false, false, false, false, false, false] rfl rfl (any_of HT_.out (by kernel_rfl)) (fun _ _ _ h => h) (Or.inl ⟨by rfl, ?_⟩) ?_ ?_
      rotate_left
      ·intro w'
       go_simp
       with_reducible rfl
      rotate_left
      ·simp only [Act.put, sA_, sB_, sC_, i64_w, i32_w]
       rfl
      refine pure_ (i := 8) (N := some 109) (v := ?_) (a' := ?_) #[false, false, true, true, true, true, true, false, true, false, false, false, false] rfl rfl (any_of HT_.out (by kernel_rfl)) (fun _ _ _ h => h) (Or.inl ⟨by rfl, ?_⟩) ?_ ?_
      rotate_left
      ·intro w'
       go_simp
       with_reducible rfl
      rotate_left
      ·simp only [Act.put, sA_, sB_, sC_, i64_w, i32_w]
       rfl
      refine pure_ (i := 9) (N := some 110) (v := ?_) (a' := ?_) #[false, false, true, true, true, true, true, false, true, true, false, false, false] rfl rfl (any_of HT_.out (by kernel_rfl)) (fun _ _ _ h => h) (Or.inl ⟨by rfl, ?_⟩) ?_ ?_
      rotate_left
      ·intro w'
       go_simp
       with_reducible rfl
      rotate_left
      ·simp only [Act.put, sA_, sB_, sC_, i64_w, i32_w]
       rfl
      refine pure_ (i := 10) (N := some 111) (v := ?_) (a' := ?_) #[false, false, true, true, true, true, true, false, true, true, true, false, false] rfl rfl (any_of HT_.out (by kernel_rfl)) (fun _ _ _ h => h) (Or.inl ⟨by rfl, ?_⟩) ?_ ?_
      rotate_left
      ·intro w'
       go_simp
       with_reducible rfl
      rotate_left
      ·simp only [Act.put, sA_, sB_, sC_, i64_w, i32_w]
       rfl
      refine take_ (i := 0) (N := some 101) (v := ?_) (a' := ?_) #[true, false, true, true, true, true, true, false, true, true, true, false, false] rfl rfl (take_ofW HT_.out HW_.out (by kernel_rfl)) (fun _ _ _ h => h) (Or.inl ⟨by rfl, ?_⟩) hHeld ?_ ?_
      rotate_left
      ·rintro w' ⟨s0, s1, s2, s3, s4, s5⟩
       go_simp
       with_reducible rfl
      rotate_left
      ·simp only [Act.put, sA_, sB_, sC_, i64_w, i32_w]
       rfl
      refine take_ (i := 1) (N := some 102) (v := ?_) (a' := ?_) #[true, true, true, true, true, true, true, false, true, true, true, false, false] rfl rfl (take_ofW HT_.out HW_.out (by kernel_rfl)) (fun _ _ _ h => h) (Or.inl ⟨by rfl, ?_⟩) hHeld ?_ ?_
      rotate_left
      ·rintro w' ⟨s0, s1, s2, s3, s4, s5⟩
       go_simp
       with_reducible rfl
      rotate_left
      ·simp only [Act.put, sA_, sB_, sC_, i64_w, i32_w]
       rfl
      refine one_ (i := 7) (N := some 108) #[true, true, true, true, true, true, true, true, true, true, true, false, false] rfl rfl (one_of HT_.out (by kernel_rfl)) (by decide) (fun K hK => ?_)
      refine goes_ Tryd.func36 (by kernel_rfl) rfl #[.agg #[.int .i64 a0_0, .int .i64 a0_1, .int .i64 a0_2, .int .u64 a0_3, .int .u64 a0_4, .int .u64 a0_5], .slice A728_0 (rd_L4 l3 0).length c728_0, .slice A154 y734.length c154, .int .u64 ji101, .bool true] (by rfl) rfl rfl (by (try simp only [List.map_toArray, List.map_cons, List.map_nil]); first | done | (simp only [Ny734.out]; rfl) | (simp only [Ny734.out, hji101]; rfl) | (simp only [hji101]; rfl) | rfl | (simp only [List.length_drop, List.length_take]; rfl)) ?_
      with_reducible refine (spec_Chained.calls kj28 a0_0 a0_1 a0_2 a0_3 a0_4 a0_5 (fun k_ => k_ < w.heap.size) _ _ (rd_L4 l3 0) _ _ y734 ji101 true t738 _ ?side1 ?side2 ?side3 A107.out).mono ?_
      (case side1 => exact Kd.V_mk HC728_0.out (Kd.F_below (Kd.C_F (Kd.heap_int .u8) HR728_0.out) (by repeat (first | (with_reducible first | exact HB.out | apply below_alloc | apply pw_below_drewN | apply below_drew1 | refine below_set ?_ GE687.out) | exact HB.out))))
      (case side2 => repeat (first | exact (Kd.C_below HR737.out HB.out) | (with_reducible refine Kd.C_alloc ?_ _) | (with_reducible refine Kd.C_drewN ?_ _) | (with_reducible refine Kd.C_drew ?_)))
      (case side3 => exact HC737.out)
      rintro e w158 ⟨v739, rfl, ho0, hb⟩
      refine ⟨_, rfl, ?_⟩
      have n0_ := Aside0.mk (Kd.V_lower (Kd.V_mono (ok' := fun k_ => k_ ≠ gb687) ho0 (fun k_ hk_ => Or.elim hk_ (fun hs_ => fun e_ => Nat.not_le.2 hs_ (by rw [e_]; exact GW687.out)) (fun hn_ => (Kd.freshB (g := gb687) (o := .cells #[.int .i64 a0_0, .int .i64 a0_1, .int .i64 a0_2, .int .u64 a0_3, .int .u64 a0_4, .int .u64 a0_5] 37 (0, 0)) (by (with_reducible repeat (first | refine blk_drewN ?_ _ | refine blk_drew ?_ | refine blk_alloc ?_ _)); exact BK687.out) k_ hn_)))) (below_size (by repeat (first | (with_reducible first | exact HB.out | apply below_alloc | apply pw_below_drewN | apply below_drew1 | refine below_set ?_ GE687.out) | exact HB.out))))
      have n1_ := Aside0.mk (blk_below (g := gb687) (o := .cells #[.int .i64 a0_0, .int .i64 a0_1, .int .i64 a0_2, .int .u64 a0_3, .int .u64 a0_4, .int .u64 a0_5] 37 (0, 0)) (by (with_reducible repeat (first | refine blk_drewN ?_ _ | refine blk_drew ?_ | refine blk_alloc ?_ _)); exact BK687.out) hb)
      have n2_ := Aside0.mk (below_step (by repeat (first | (with_reducible first | exact HB.out | apply below_alloc | apply pw_below_drewN | apply below_drew1 | refine below_set ?_ GE687.out) | exact HB.out)) hb)
      clear BK687
      clear HB
      have HO740 := n0_
      have BK687 := n1_
      have HB := n2_
      clear n0_ n1_ n2_
      (try clear hb)
      (try clear hb2)
      (try clear hk)
      (try clear hi)
      (try clear ho0)
      obtain ⟨Ao159, co159, eo159⟩ := Kd.V_slice HO740.out
      (first | subst eo159 | (injection eo159 with f1_ f2_ f3_; have f4_ := f1_.symm; have f5_ := f3_.symm; clear f1_ f2_ f3_; subst f4_; subst f5_))
      refine hK.out _ _ ⟨(blk_cell BK687.out 0).trans rfl, (blk_cell BK687.out 1).trans rfl, (blk_cell BK687.out 2).trans rfl, (blk_cell BK687.out 3).trans rfl, (blk_cell BK687.out 4).trans rfl, (blk_cell BK687.out 5).trans rfl⟩ (fun hHeld => ?_)
      clear hK K
      refine norm_ (a' := ?_) ?_ ?_
      rotate_left
      ·show Act.put _ (some 108) _ = _
       simp only [Act.put, sA_, sB_, sC_, i64_w, i32_w]
       rfl
      refine one_ (i := 11) (N := some 112) #[true, true, true, true, true, true, true, true, true, true, true, true, false] rfl rfl (one_of HT_.out (by kernel_rfl)) (by decide) (fun K hK => ?_)
      refine goes_ Tryd.func36 (by kernel_rfl) rfl #[.agg #[.int .i64 a0_0, .int .i64 a0_1, .int .i64 a0_2, .int .u64 a0_3, .int .u64 a0_4, .int .u64 a0_5], .slice Ao159 t738.length co159, .slice A157 y741.length c157, .int .u64 18446744073709551615, .bool true] (by rfl) rfl rfl (by (try simp only [List.map_toArray, List.map_cons, List.map_nil]); first | done | (simp only [Ny741.out]; rfl) | rfl | (simp only [List.length_drop, List.length_take]; rfl)) ?_
      with_reducible refine (spec_Chained.calls kj28 a0_0 a0_1 a0_2 a0_3 a0_4 a0_5 (fun k_ => k_ ≠ gb687) _ _ t738 _ _ y741 18446744073709551615 true t745 _ ?side1 ?side2 ?side3 A110.out).mono ?_
      (case side1 => first | exact HO740.out | exact Kd.V_mono HO740.out (fun k_ hk_ => ⟨⟨hk_.1, hk_.2.1⟩, hk_.2.2⟩))
      (case side2 => repeat (first | exact (Kd.C_below HR744.out HB.out) | (with_reducible refine Kd.C_alloc ?_ _) | (with_reducible refine Kd.C_drewN ?_ _) | (with_reducible refine Kd.C_drew ?_)))
      (case side3 => exact HC744.out)
      rintro e w160 ⟨v746, rfl, ho0, hb⟩
      refine ⟨_, rfl, ?_⟩
      have n0_ := Aside0.mk (Kd.V_below (by (with_reducible repeat (first | apply Kd.V_alloc | apply Kd.V_drewN | apply Kd.V_drew)); exact HO740.out) hb)
      have n1_ := Aside0.mk (Kd.V_lower (Kd.V_mono (ok' := fun k_ => k_ ≠ gb687) ho0 (fun k_ hk_ => Or.elim hk_ (fun hs_ => hs_) (fun hn_ => (Kd.freshB (g := gb687) (o := .cells #[.int .i64 a0_0, .int .i64 a0_1, .int .i64 a0_2, .int .u64 a0_3, .int .u64 a0_4, .int .u64 a0_5] 37 (0, 0)) (by (with_reducible repeat (first | refine blk_drewN ?_ _ | refine blk_drew ?_ | refine blk_alloc ?_ _)); exact BK687.out) k_ hn_)))) (below_size (by repeat (first | (with_reducible first | exact HB.out | apply below_alloc | apply pw_below_drewN | apply below_drew1 | refine below_set ?_ GE687.out) | exact HB.out))))
      have n2_ := Aside0.mk (blk_below (g := gb687) (o := .cells #[.int .i64 a0_0, .int .i64 a0_1, .int .i64 a0_2, .int .u64 a0_3, .int .u64 a0_4, .int .u64 a0_5] 37 (0, 0)) (by (with_reducible repeat (first | refine blk_drewN ?_ _ | refine blk_drew ?_ | refine blk_alloc ?_ _)); exact BK687.out) hb)
      have n3_ := Aside0.mk (below_step (by repeat (first | (with_reducible first | exact HB.out | apply below_alloc | apply pw_below_drewN | apply below_drew1 | refine below_set ?_ GE687.out) | exact HB.out)) hb)
      clear HO740
      clear BK687
      clear HB
      have HO740 := n0_
      have HO747 := n1_
      have BK687 := n2_
      have HB := n3_
      clear n0_ n1_ n2_ n3_
      (try clear hb)
      (try clear hb2)
      (try clear hk)
      (try clear hi)
      (try clear ho0)
      refine hK.out _ _ ⟨(blk_cell BK687.out 0).trans rfl, (blk_cell BK687.out 1).trans rfl, (blk_cell BK687.out 2).trans rfl, (blk_cell BK687.out 3).trans rfl, (blk_cell BK687.out 4).trans rfl, (blk_cell BK687.out 5).trans rfl⟩ (fun hHeld => ?_)
      clear hK K
      refine norm_ (a' := ?_) ?_ ?_
      rotate_left
      ·show Act.put _ (some 112) _ = _
       simp only [Act.put, sA_, sB_, sC_, i64_w, i32_w]
       rfl
      refine pure_ (i := 12) (N := some 20) (v := ?_) (a' := ?_) #[true, true, true, true, true, true, true, true, true, true, true, true, true] rfl rfl (any_of HT_.out (by kernel_rfl)) (fun _ _ _ h => h) (Or.inl ⟨by rfl, ?_⟩) ?_ ?_
      rotate_left
      ·intro w'
       go_simp
       with_reducible rfl
      rotate_left
      ·simp only [Act.put, sA_, sB_, sC_, i64_w, i32_w]
       rfl
      refine done_ (done_of HT_.out (by kernel_rfl)) ?_
      try go_wp2
      have n0_ := Aside0.mk (Kd.V_drew HO740.out)
      have n1_ := Aside0.mk (Kd.V_drew HO747.out)
      have n2_ := Aside0.mk (blk_drew BK687.out)
      have n3_ := Aside0.mk (below_drew1 HB.out)
      clear HO740
      clear HO747
      clear BK687
      clear HB
      have HO740 := n0_
      have HO747 := n1_
      have BK687 := n2_
      have HB := n3_
      clear n0_ n1_ n2_ n3_
      have q162 : (t733 : Int) ≤ ((y729.length : Int) : Int) := of_decide_eq_true (by first | (with_reducible assumption) | assumption)
      obtain ⟨i0162, hi0162, _, hsz162, _⟩ := info_parts info42
      have hroom162 : y729.length ≤ c154 := HC732.out
      have hC162 : Kd.C (Kd.slice 5 (Kd.int .u8)) _ A154 y729.length y729 := HR732.out
      have hcut162 := cut_to (P := Tryd.prog) 38 42 .i64 Tryd.underlying38 hi0162 A154 y729.length c154 t733 (of_decide_eq_true (by first | (with_reducible assumption) | assumption)) q162 hroom162
      have hr162 := Kd.C_take (m := (t733 : Int).toNat) hC162 (by omega)
      have hy162 : y734.length = (t733 : Int).toNat := (by rw [Ny748.out, List.length_take]; omega)
      rw [← Ny748.out] at hr162
      rw [← hy162] at hcut162
      have HR751 := Aside0.mk hr162
      have HC751 := Aside0.mk (show y734.length ≤ c154 from by omega)
      clear hr162 hC162 hroom162 hi0162 hsz162
      have KY162 := Aside0.mk hy162
      clear hy162
      replace q162 := eq_true q162
      have q163 : (t733 : Int) ≤ ((y729.length : Int) : Int) := of_decide_eq_true (by first | (with_reducible assumption) | assumption)
      obtain ⟨i0163, hi0163, _, hsz163, _⟩ := info_parts info42
      have hroom163 : y729.length ≤ c154 := HC732.out
      have hC163 : Kd.C (Kd.slice 5 (Kd.int .u8)) _ A154 y729.length y729 := HR732.out
      have q0163 : (0 : Int) ≤ (t733 : Int) := of_decide_eq_true (by first | (with_reducible assumption) | assumption)
      have hcut163 := cut_from (P := Tryd.prog) 38 42 .i64 Tryd.underlying38 hi0163 1 hsz163 A154 y729.length c154 t733 q0163 q163
      have hr163 := Kd.C_drop (m := (t733 : Int).toNat) (c := c154) hC163 (by omega) hroom163
      have hA163 : A157 = (if c154 = (t733 : Int).toNat then A154 else (A154 : Option Addr).map (·.add ((t733 : Int).toNat * 1))) := KA157.out
      have hc163 : c157 = c154 - (t733 : Int).toNat := KC157.out
      have hy163 : y741.length = y729.length - (t733 : Int).toNat := (by rw [Ny755.out, List.length_drop] <;> omega)
      rw [show (y729).drop (t733 : Int).toNat = y741 from Ny755.out.symm] at hr163
      replace hr163 : Kd.C (Kd.slice 5 (Kd.int .u8)) _ A157 y741.length y741 := (by rw [hA163]; exact hr163)
      rw [← hy163, ← hA163, ← hc163] at hcut163
      have HR758 := Aside0.mk hr163
      have HC758 := Aside0.mk (show y741.length ≤ c157 from by rw [hy163, hc163]; exact Nat.sub_le_sub_right hroom163 _)
      clear hr163 hC163 hroom163 hi0163 hsz163 hc163
      have KY163 := Aside0.mk hy163
      have KA163 := Aside0.mk hA163
      clear hy163 hA163
      replace q163 := eq_true q163
      refine start_ (n := 13) (S := fun w' => w'.cell? ⟨gb687, 0, none⟩ = some (.int .i64 a0_0) ∧ w'.cell? ⟨gb687, 1, none⟩ = some (.int .i64 a0_1) ∧ w'.cell? ⟨gb687, 2, none⟩ = some (.int .i64 a0_2) ∧ w'.cell? ⟨gb687, 3, none⟩ = some (.int .u64 a0_3) ∧ w'.cell? ⟨gb687, 4, none⟩ = some (.int .u64 a0_4) ∧ w'.cell? ⟨gb687, 5, none⟩ = some (.int .u64 a0_5)) (ds := []) #[false, false, false, false, false, false, false, false, false, false, false, false, false] (by kernel_rfl) rfl rfl ⟨(blk_cell BK687.out 0).trans rfl, (blk_cell BK687.out 1).trans rfl, (blk_cell BK687.out 2).trans rfl, (blk_cell BK687.out 3).trans rfl, (blk_cell BK687.out 4).trans rfl, (blk_cell BK687.out 5).trans rfl⟩ (fun hHeld => ?_); refine with_tabW laws_FnVerifyConsistencyFar.tab16 laws_FnVerifyConsistencyFar.bits16 (fun HT_ HW_ => ?_)
      generalize w160.drew = w161 at HO740 HO747 BK687 HB HR751 HR758 hHeld ⊢
      refine pure_ (i := 2) (N := some 115) (v := ?_) (a' := ?_) #[false, false, true, false, false, false, false, false, false, false, false, false, false] rfl rfl (any_of HT_.out (by kernel_rfl)) (fun _ _ _ h => h) (Or.inl ⟨by rfl, ?_⟩) ?_ ?_
      rotate_left
      ·intro w'
       go_simp
       with_reducible rfl
      rotate_left
      ·simp only [Act.put, sA_, sB_, sC_, i64_w, i32_w]
       rfl
      refine pure_ (i := 3) (N := some 116) (v := ?_) (a' := ?_) #[false, false, true, true, false, false, false, false, false, false, false, false, false] rfl rfl (any_of HT_.out (by kernel_rfl)) (fun _ _ _ h => h) (Or.inl ⟨by rfl, ?_⟩) ?_ ?_
      rotate_left
      ·intro w'
       go_simp
       with_reducible rfl
      rotate_left
      ·simp only [Act.put, sA_, sB_, sC_, i64_w, i32_w]
       rfl
      refine pure_ (i := 4) (N := some 117) (v := ?_) (a' := ?_) #[false, false, true, true, true, false, false, false, false, false, false, false, false] rfl rfl (any_of HT_.out (by kernel_rfl)) (fun _ _ _ h => h) (Or.inl ⟨by rfl, ?_⟩) ?_ ?_
      rotate_left
      ·intro w'
       go_simp
       with_reducible rfl
      rotate_left
      ·simp only [Act.put, sA_, sB_, sC_, i64_w, i32_w]
       rfl
      refine pure_ (i := 5) (N := some 118) (v := ?_) (a' := ?_) #[false, false, true, true, true, true, false, false, false, false, false, false, false] rfl rfl (any_of HT_.out (by kernel_rfl)) (fun _ _ _ h => h) (Or.inl ⟨by rfl, ?_⟩) ?_ ?_
      rotate_left
      ·intro w'
       go_simp
       with_reducible rfl
      rotate_left
      ·simp only [Act.put, sA_, sB_, sC_, i64_w, i32_w]
       rfl
      refine pure_ (i := 6) (N := some 119) (v := ?_) (a' := ?_) #[false, false, true, true, true, true, true, false, false, false, false, false, false] rfl rfl (any_of HT_.out (by kernel_rfl)) (fun _ _ _ h => h) (Or.inl ⟨by rfl, ?_⟩) ?_ ?_
      rotate_left
      ·intro w'
       go_simp
       with_reducible rfl
      rotate_left
      ·simp only [Act.put, sA_, sB_, sC_, i64_w, i32_w]
       rfl
      refine pure_ (i := 8) (N := some 121) (v := ?_) (a' := ?_) #[false, false, true, true, true, true, true, false, true, false, false, false, false] rfl rfl (any_of HT_.out (by kernel_rfl)) (fun _ _ _ h => h) (Or.inl ⟨by rfl, ?_⟩) ?_ ?_
      rotate_left
      ·intro w'
       go_simp
       with_reducible rfl
      rotate_left
      ·simp only [Act.put, sA_, sB_, sC_, i64_w, i32_w]
       rfl
      refine pure_ (i := 9) (N := some 122) (v := ?_) (a' := ?_) #[false, false, true, true, true, true, true, false, true, true, false, false, false] rfl rfl (any_of HT_.out (by kernel_rfl)) (fun _ _ _ h => h) (Or.inl ⟨by rfl, ?_⟩) ?_ ?_
      rotate_left
      ·intro w'
       go_simp
       with_reducible rfl
      rotate_left
      ·simp only [Act.put, sA_, sB_, sC_, i64_w, i32_w]
       rfl
      refine pure_ (i := 10) (N := some 123) (v := ?_) (a' := ?_) #[false, false, true, true, true, true, true, false, true, true, true, false, false] rfl rfl (any_of HT_.out (by kernel_rfl)) (fun _ _ _ h => h) (Or.inl ⟨by rfl, ?_⟩) ?_ ?_
      rotate_left
      ·intro w'
       go_simp
       with_reducible rfl
      rotate_left
      ·simp only [Act.put, sA_, sB_, sC_, i64_w, i32_w]
       rfl
      refine take_ (i := 0) (N := some 113) (v := ?_) (a' := ?_) #[true, false, true, true, true, true, true, false, true, true, true, false, false] rfl rfl (take_ofW HT_.out HW_.out (by kernel_rfl)) (fun _ _ _ h => h) (Or.inl ⟨by rfl, ?_⟩) hHeld ?_ ?_
      rotate_left
      ·rintro w' ⟨s0, s1, s2, s3, s4, s5⟩
       go_simp
       with_reducible rfl
      rotate_left
      ·simp only [Act.put, sA_, sB_, sC_, i64_w, i32_w]
       rfl
      refine take_ (i := 1) (N := some 114) (v := ?_) (a' := ?_) #[true, true, true, true, true, true, true, false, true, true, true, false, false] rfl rfl (take_ofW HT_.out HW_.out (by kernel_rfl)) (fun _ _ _ h => h) (Or.inl ⟨by rfl, ?_⟩) hHeld ?_ ?_
      rotate_left
      ·rintro w' ⟨s0, s1, s2, s3, s4, s5⟩
       go_simp
       with_reducible rfl
      rotate_left
      ·simp only [Act.put, sA_, sB_, sC_, i64_w, i32_w]
       rfl
      refine one_ (i := 7) (N := some 120) #[true, true, true, true, true, true, true, true, true, true, true, false, false] rfl rfl (one_of HT_.out (by kernel_rfl)) (by decide) (fun K hK => ?_)
      refine goes_ Tryd.func36 (by kernel_rfl) rfl #[.agg #[.int .i64 a0_0, .int .i64 a0_1, .int .i64 a0_2, .int .u64 a0_3, .int .u64 a0_4, .int .u64 a0_5], .slice A728_0 (rd_L4 l3 0).length c728_0, .slice A154 y734.length c154, .int .u64 ji101, .bool false] (by rfl) rfl rfl (by (try simp only [List.map_toArray, List.map_cons, List.map_nil]); first | done | (simp only [Ny748.out]; rfl) | (simp only [Ny748.out, hji101]; rfl) | (simp only [hji101]; rfl) | rfl | (simp only [List.length_drop, List.length_take]; rfl)) ?_
      with_reducible refine (spec_Chained.calls kj28 a0_0 a0_1 a0_2 a0_3 a0_4 a0_5 (fun k_ => k_ < w.heap.size) _ _ (rd_L4 l3 0) _ _ y734 ji101 false t752 _ ?side1 ?side2 ?side3 A113.out).mono ?_
      (case side1 => exact Kd.V_mk HC728_0.out (Kd.F_below (Kd.C_F (Kd.heap_int .u8) HR728_0.out) (by repeat (first | (with_reducible first | exact HB.out | apply below_alloc | apply pw_below_drewN | apply below_drew1 | refine below_set ?_ GE687.out) | exact HB.out))))
      (case side2 => repeat (first | exact (Kd.C_below HR751.out HB.out) | (with_reducible refine Kd.C_alloc ?_ _) | (with_reducible refine Kd.C_drewN ?_ _) | (with_reducible refine Kd.C_drew ?_)))
      (case side3 => exact HC751.out)
      rintro e w164 ⟨v753, rfl, ho0, hb⟩
      refine ⟨_, rfl, ?_⟩
      have n0_ := Aside0.mk (Kd.V_below (by (with_reducible repeat (first | apply Kd.V_alloc | apply Kd.V_drewN | apply Kd.V_drew)); exact HO740.out) hb)
      have n1_ := Aside0.mk (Kd.V_below (by (with_reducible repeat (first | apply Kd.V_alloc | apply Kd.V_drewN | apply Kd.V_drew)); exact HO747.out) hb)
      have n2_ := Aside0.mk (Kd.V_lower (Kd.V_mono (ok' := fun k_ => k_ ≠ gb687) ho0 (fun k_ hk_ => Or.elim hk_ (fun hs_ => fun e_ => Nat.not_le.2 hs_ (by rw [e_]; exact GW687.out)) (fun hn_ => (Kd.freshB (g := gb687) (o := .cells #[.int .i64 a0_0, .int .i64 a0_1, .int .i64 a0_2, .int .u64 a0_3, .int .u64 a0_4, .int .u64 a0_5] 37 (0, 0)) (by (with_reducible repeat (first | refine blk_drewN ?_ _ | refine blk_drew ?_ | refine blk_alloc ?_ _)); exact BK687.out) k_ hn_)))) (below_size (by repeat (first | (with_reducible first | exact HB.out | apply below_alloc | apply pw_below_drewN | apply below_drew1 | refine below_set ?_ GE687.out) | exact HB.out))))
      have n3_ := Aside0.mk (blk_below (g := gb687) (o := .cells #[.int .i64 a0_0, .int .i64 a0_1, .int .i64 a0_2, .int .u64 a0_3, .int .u64 a0_4, .int .u64 a0_5] 37 (0, 0)) (by (with_reducible repeat (first | refine blk_drewN ?_ _ | refine blk_drew ?_ | refine blk_alloc ?_ _)); exact BK687.out) hb)
      have n4_ := Aside0.mk (below_step (by repeat (first | (with_reducible first | exact HB.out | apply below_alloc | apply pw_below_drewN | apply below_drew1 | refine below_set ?_ GE687.out) | exact HB.out)) hb)
      clear HO740
      clear HO747
      clear BK687
      clear HB
      have HO740 := n0_
      have HO747 := n1_
      have HO754 := n2_
      have BK687 := n3_
      have HB := n4_
      clear n0_ n1_ n2_ n3_ n4_
      (try clear hb)
      (try clear hb2)
      (try clear hk)
      (try clear hi)
      (try clear ho0)
      obtain ⟨Ao165, co165, eo165⟩ := Kd.V_slice HO754.out
      (first | subst eo165 | (injection eo165 with f1_ f2_ f3_; have f4_ := f1_.symm; have f5_ := f3_.symm; clear f1_ f2_ f3_; subst f4_; subst f5_))
      refine hK.out _ _ ⟨(blk_cell BK687.out 0).trans rfl, (blk_cell BK687.out 1).trans rfl, (blk_cell BK687.out 2).trans rfl, (blk_cell BK687.out 3).trans rfl, (blk_cell BK687.out 4).trans rfl, (blk_cell BK687.out 5).trans rfl⟩ (fun hHeld => ?_)
      clear hK K
      refine norm_ (a' := ?_) ?_ ?_
      rotate_left
      ·show Act.put _ (some 120) _ = _
       simp only [Act.put, sA_, sB_, sC_, i64_w, i32_w]
       rfl
      refine one_ (i := 11) (N := some 124) #[true, true, true, true, true, true, true, true, true, true, true, true, false] rfl rfl (one_of HT_.out (by kernel_rfl)) (by decide) (fun K hK => ?_)
      refine goes_ Tryd.func36 (by kernel_rfl) rfl #[.agg #[.int .i64 a0_0, .int .i64 a0_1, .int .i64 a0_2, .int .u64 a0_3, .int .u64 a0_4, .int .u64 a0_5], .slice Ao165 t752.length co165, .slice A157 y741.length c157, .int .u64 18446744073709551615, .bool true] (by rfl) rfl rfl (by (try simp only [List.map_toArray, List.map_cons, List.map_nil]); first | done | (simp only [Ny755.out]; rfl) | rfl | (simp only [List.length_drop, List.length_take]; rfl)) ?_
      with_reducible refine (spec_Chained.calls kj28 a0_0 a0_1 a0_2 a0_3 a0_4 a0_5 (fun k_ => k_ ≠ gb687) _ _ t752 _ _ y741 18446744073709551615 true t759 _ ?side1 ?side2 ?side3 A116.out).mono ?_
      (case side1 => first | exact HO754.out | exact Kd.V_mono HO754.out (fun k_ hk_ => ⟨⟨hk_.1, hk_.2.1⟩, hk_.2.2⟩))
      (case side2 => repeat (first | exact (Kd.C_below HR758.out HB.out) | (with_reducible refine Kd.C_alloc ?_ _) | (with_reducible refine Kd.C_drewN ?_ _) | (with_reducible refine Kd.C_drew ?_)))
      (case side3 => exact HC758.out)
      rintro e w166 ⟨v760, rfl, ho0, hb⟩
      refine ⟨_, rfl, ?_⟩
      have n0_ := Aside0.mk (Kd.V_below (by (with_reducible repeat (first | apply Kd.V_alloc | apply Kd.V_drewN | apply Kd.V_drew)); exact HO740.out) hb)
      have n1_ := Aside0.mk (Kd.V_below (by (with_reducible repeat (first | apply Kd.V_alloc | apply Kd.V_drewN | apply Kd.V_drew)); exact HO747.out) hb)
      have n2_ := Aside0.mk (Kd.V_below (by (with_reducible repeat (first | apply Kd.V_alloc | apply Kd.V_drewN | apply Kd.V_drew)); exact HO754.out) hb)
      have n3_ := Aside0.mk (Kd.V_lower (Kd.V_mono (ok' := fun k_ => k_ ≠ gb687) ho0 (fun k_ hk_ => Or.elim hk_ (fun hs_ => hs_) (fun hn_ => (Kd.freshB (g := gb687) (o := .cells #[.int .i64 a0_0, .int .i64 a0_1, .int .i64 a0_2, .int .u64 a0_3, .int .u64 a0_4, .int .u64 a0_5] 37 (0, 0)) (by (with_reducible repeat (first | refine blk_drewN ?_ _ | refine blk_drew ?_ | refine blk_alloc ?_ _)); exact BK687.out) k_ hn_)))) (below_size (by repeat (first | (with_reducible first | exact HB.out | apply below_alloc | apply pw_below_drewN | apply below_drew1 | refine below_set ?_ GE687.out) | exact HB.out))))
      have n4_ := Aside0.mk (blk_below (g := gb687) (o := .cells #[.int .i64 a0_0, .int .i64 a0_1, .int .i64 a0_2, .int .u64 a0_3, .int .u64 a0_4, .int .u64 a0_5] 37 (0, 0)) (by (with_reducible repeat (first | refine blk_drewN ?_ _ | refine blk_drew ?_ | refine blk_alloc ?_ _)); exact BK687.out) hb)
      have n5_ := Aside0.mk (below_step (by repeat (first | (with_reducible first | exact HB.out | apply below_alloc | apply pw_below_drewN | apply below_drew1 | refine below_set ?_ GE687.out) | exact HB.out)) hb)
      clear HO740
      clear HO747
      clear HO754
      clear BK687
      clear HB
      have HO740 := n0_
      have HO747 := n1_
      have HO754 := n2_
      have HO761 := n3_
      have BK687 := n4_
      have HB := n5_
      clear n0_ n1_ n2_ n3_ n4_ n5_
      (try clear hb)
      (try clear hb2)
      (try clear hk)
      (try clear hi)
      (try clear ho0)
      refine hK.out _ _ ⟨(blk_cell BK687.out 0).trans rfl, (blk_cell BK687.out 1).trans rfl, (blk_cell BK687.out 2).trans rfl, (blk_cell BK687.out 3).trans rfl, (blk_cell BK687.out 4).trans rfl, (blk_cell BK687.out 5).trans rfl⟩ (fun hHeld => ?_)
      clear hK K
      refine norm_ (a' := ?_) ?_ ?_
      rotate_left
      ·show Act.put _ (some 124) _ = _
       simp only [Act.put, sA_, sB_, sC_, i64_w, i32_w]
       rfl
      refine pure_ (i := 12) (N := some 21) (v := ?_) (a' := ?_) #[true, true, true, true, true, true, true, true, true, true, true, true, true] rfl rfl (any_of HT_.out (by kernel_rfl)) (fun _ _ _ h => h) (Or.inl ⟨by rfl, ?_⟩) ?_ ?_
      rotate_left
      ·intro w'
       go_simp
       with_reducible rfl
      rotate_left
      ·simp only [Act.put, sA_, sB_, sC_, i64_w, i32_w]
       rfl
      refine done_ (done_of HT_.out (by kernel_rfl)) ?_
      obtain ⟨Ao167, co167, eo167⟩ := Kd.V_slice HO747.out
      subst eo167
      try go_wp2_with (first | ((with_reducible refine gate_callee (f := 25) rfl ?_); refine goesL_ (some 127) rfl rfl Tryd.func25 (by kernel_rfl) rfl #[.slice Ao167 t745.length co167, .slice A4 l4.length c4] rfl (by (try simp only [List.map_toArray, List.map_cons, List.map_nil]); first | done | rfl | (simp only [List.length_drop, List.length_take]; rfl)) ?_; (with_reducible refine (spec_SameText.calls _ _ t745 _ _ l4 false _ ?side1 ?side2 ?side3 ?side4 A117.out).mono ?_); (case side1 => repeat (first | exact (Kd.V_reads' HO747.out).2.2 | (with_reducible refine Kd.C_alloc ?_ _) | (with_reducible refine Kd.C_drewN ?_ _) | (with_reducible refine Kd.C_drew ?_))); (case side2 => exact (Kd.V_reads' HO747.out).2.1); (case side3 => repeat (first | exact (Kd.C_below HR4.out HB.out) | (with_reducible refine Kd.C_alloc ?_ _) | (with_reducible refine Kd.C_drewN ?_ _) | (with_reducible refine Kd.C_drew ?_))); (case side4 => exact HC4.out); rintro e w' ⟨rfl, ⟨nd, rfl⟩⟩; refine ⟨_, rfl, ?_⟩))
      go_ret
      exact ⟨by first | rfl | (simp [errW_none, errW_some] <;> rfl) | (simp only [← hji34, ← hji101, ← hji103]; first | rfl | (simp [errW_none, errW_some] <;> rfl)) | (simp [*, errW_none, errW_some] <;> rfl), by repeat (first | (with_reducible first | exact HB.out | apply below_alloc | apply pw_below_drewN | apply below_drew1 | refine below_set ?_ GE687.out) | exact HB.out)⟩
     rw [if_neg c106] at H
     exact absurd H (by simp)
    rw [if_neg c105] at H
    exact absurd H (by simp)
   rw [if_neg c99] at H
   exact absurd H (by simp)
  rw [if_neg c98] at H
  exact absurd H (by simp)
 rw [if_neg c33] at H
 exact absurd H (by simp)
end Go.Proofs.YtijldedhcjkhiaaDoor.X
