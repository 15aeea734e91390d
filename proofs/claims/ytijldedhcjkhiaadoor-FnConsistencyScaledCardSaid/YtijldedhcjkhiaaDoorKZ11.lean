import Derived.Test.YtijldedhcjkhiaaDoorKZ0
import Derived.Test.YtijldedhcjkhiaaDoorKZ2
import Derived.Test.YtijldedhcjkhiaaDoorKZ5
import Derived.Test.YtijldedhcjkhiaaDoorKZ9
import Derived.Test.YtijldedhcjkhiaaDoorKZ10
namespace Go.Proofs.YtijldedhcjkhiaaDoor.Z
open Go.RowKit Go.Proofs.YtijldedhcjkhiaaDoorW.PrintWords Go.Proofs.YtijldedhcjkhiaaDoorW.PrintLast Go.Proofs.YtijldedhcjkhiaaDoorW.PrintMore
attribute [local go_sem] max2_int min2_int max_two min_two max_three min_three max_four min_four   -- for this text's walks alone
set_option linter.unusedVariables false
set_option linter.unusedSimpArgs false
set_option maxHeartbeats 8000000 in
set_option maxRecDepth 100000 in
theorem laws_FnConsistencyScaled.calls (k : Nat) (a0_0 : Int) (a0_1 : Int) (a0_2 : Int) (a0_3 : Int) (a0_4 : Int) (a0_5 : Int) (a1 : Int) (a2 : Int) (a3 : Int) (A4 : Option Addr) (c4 : Nat) (l4 : List (List Int)) (A5 : Option Addr) (c5 : Nat) (l5 : List Int) (A6 : Option Addr) (c6 : Nat) (l6 : List Int) (r : Bool) (w : World) (hGT : GlobT w) (hr4 : Kd.C (Kd.slice 5 (Kd.int .u8)) w A4 l4.length l4) (hc4 : l4.length ≤ c4) (hr5 : Kd.C (Kd.int .u8) w A5 l5.length l5) (hc5 : l5.length ≤ c5) (hr6 : Kd.C (Kd.int .u8) w A6 l6.length l6) (hc6 : l6.length ≤ c6) (h : laws_FnConsistencyScaled.f k a0_0 a0_1 a0_2 a0_3 a0_4 a0_5 a1 a2 a3 l4 l5 l6 = some r) :
  Calls Tryd.prog 12 #[.agg #[.int .i64 a0_0, .int .i64 a0_1, .int .i64 a0_2, .int .u64 a0_3, .int .u64 a0_4, .int .u64 a0_5], .int .u64 a1, .int .u64 a2, .int .i64 a3, .slice A4 l4.length c4, .slice A5 l5.length c5, .slice A6 l6.length c6] w fun e w' => e = .returned (.bool r) ∧ Below w.heap.size w w' := by
 have hu37 := Tryd.underlying37
 have hu72 := Tryd.underlying72
 have HR4 := Aside0.mk hr4
 have HC4 := Aside0.mk hc4
 clear hr4 hc4
 have HR5 := Aside0.mk hr5
 have HC5 := Aside0.mk hc5
 clear hr5 hc5
 have HR6 := Aside0.mk hr6
 have HC6 := Aside0.mk hc6
 clear hr6 hc6
 have HB := Aside0.mk (Below.refl w.heap.size w)
 have H : ((laws_zzFits2.f k l4).bind fun t545 => (if t545 = true then (if (l5.length : Int) > 2147483647 then (laws_FnConsistencyScaled.j0 k a1 a2 a3 l4 l5 l6 true a0_0 a0_1 a0_2 a0_3 a0_4 a0_5) else (laws_FnConsistencyScaled.j0 k a1 a2 a3 l4 l5 l6 (decide ((l6.length : Int) > 2147483647)) a0_0 a0_1 a0_2 a0_3 a0_4 a0_5)) else (laws_FnConsistencyScaled.j0 k a1 a2 a3 l4 l5 l6 true a0_0 a0_1 a0_2 a0_3 a0_4 a0_5))) = some r := h
 clear h
 have HC8 := Aside0.mk H
 clear H
 go_enter Tryd.func12, Tryd.ntmps12
 go_upto_region 1 with (first | ((with_reducible refine gate_dst (N := 7) rfl ?_); (try (refine gate_guard (by rfl) ?_; dsimp only)); refine box_event ?hg (N := 7) ?hd (cs := #[.int .i64 a0_0, .int .i64 a0_1, .int .i64 a0_2, .int .u64 a0_3, .int .u64 a0_4, .int .u64 a0_5]) (t := 37) ?hr ?_; (case hd => rfl); (case hg => rfl); (case hr => first | (go_simp; done) | (go_simp; rfl)); intro gb544 hg w9 hbox hb; have n0_ := Aside0.mk (below_step (by repeat (first | (with_reducible first | exact HB.out | apply below_alloc | apply pw_below_drewN | apply below_drew1) | exact HB.out)) hb); have n1_ := Aside0.mk (hbox); have n2_ := Aside0.mk ((by rw [hg]; exact (below_size (by repeat (first | (with_reducible first | exact HB.out | apply below_alloc | apply pw_below_drewN | apply below_drew1) | exact HB.out))) : w.heap.size ≤ gb544)); have n3_ := Aside0.mk ((by rw [hg]; exact (below_size (by repeat (first | (with_reducible first | exact HB.out | apply below_alloc | apply pw_below_drewN | apply below_drew1) | exact HB.out))) : w.heap.size ≤ gb544)); clear HB; have HB := n0_; have BK544 := n1_; have GW544 := n2_; have GE544 := n3_; clear n0_ n1_ n2_ n3_; clear hb hbox hg))
 (try simp only [Act.put, sA_, sB_, sC_])
 go_cut [35] (fun v35 wc => ∃ (kq : Nat) (x35_7 : Bool), v35 = .bool x35_7 ∧ Aside0 (laws_FnConsistencyScaled.j0 kq a1 a2 a3 l4 l5 l6 x35_7 a0_0 a0_1 a0_2 a0_3 a0_4 a0_5 = some r) ∧ Aside0 (kq ≤ k) ∧ Aside0 (wc.heap[gb544]? = some (.cells #[.int .i64 a0_0, .int .i64 a0_1, .int .i64 a0_2, .int .u64 a0_3, .int .u64 a0_4, .int .u64 a0_5] 37 (0, 0))) ∧ Aside0 (Below w.heap.size w wc))
 case first =>
  have H := HC8.out
  clear HC8
  replace H := Option.bind_eq_some_iff.mp H
  obtain ⟨t545, A100, H⟩ := H
  replace H : (if t545 = true then (if (l5.length : Int) > 2147483647 then (laws_FnConsistencyScaled.j0 k a1 a2 a3 l4 l5 l6 true a0_0 a0_1 a0_2 a0_3 a0_4 a0_5) else (laws_FnConsistencyScaled.j0 k a1 a2 a3 l4 l5 l6 (decide ((l6.length : Int) > 2147483647)) a0_0 a0_1 a0_2 a0_3 a0_4 a0_5)) else (laws_FnConsistencyScaled.j0 k a1 a2 a3 l4 l5 l6 true a0_0 a0_1 a0_2 a0_3 a0_4 a0_5)) = some r := H
  have A10 := Aside0.mk A100
  clear A100
  by_cases c11 : t545 = true
  ·subst c11
   have H1 : (if (l5.length : Int) > 2147483647 then (laws_FnConsistencyScaled.j0 k a1 a2 a3 l4 l5 l6 true a0_0 a0_1 a0_2 a0_3 a0_4 a0_5) else (laws_FnConsistencyScaled.j0 k a1 a2 a3 l4 l5 l6 (decide ((l6.length : Int) > 2147483647)) a0_0 a0_1 a0_2 a0_3 a0_4 a0_5)) = some r := by rw [if_pos rfl] at H; exact H
   clear H
   have H := H1
   clear H1
   by_cases c12 : (l5.length : Int) > 2147483647
   ·rw [if_pos c12] at H
    have c12b0 : decide (2147483647 < (l5.length : Int)) = true := decide_eq_true c12
    have c12b1 : decide (2147483647 < l5.length) = true := decide_eq_true (by omega)
    clear c12
    (first | rw [c12b0] | (simp only [i64_w, i32_w]; rw [c12b0]) | skip)
    have H' := Aside0.mk H
    clear H
    go_wp2_with (first | ((with_reducible refine gate_callee (f := 27) rfl ?_); refine goesL_ (some 24) rfl rfl Tryd.func27 (by kernel_rfl) rfl #[.slice A4 l4.length c4] rfl (by (try simp only [List.map_toArray, List.map_cons, List.map_nil]); first | done | rfl | (simp only [List.length_drop, List.length_take]; rfl)) ?_; (with_reducible refine (laws_zzFits2.calls k _ _ l4 true _ ?side1 ?side2 A10.out).mono ?_); (case side1 => repeat (first | exact (Kd.C_below HR4.out HB.out) | (with_reducible refine Kd.C_alloc ?_ _) | (with_reducible refine Kd.C_drewN ?_ _) | (with_reducible refine Kd.C_drew ?_))); (case side2 => exact HC4.out); rintro e w' ⟨rfl, ⟨nd, rfl⟩⟩; refine ⟨_, rfl, ?_⟩))
    go_meet
    case rel => exact ⟨_, (true), (by first | rfl | (simp; done) | (simp [*]; done)), H', ⟨by first | omega | exact Nat.le_refl _⟩, ⟨by (with_reducible repeat (first | refine blk_drewN ?_ _ | refine blk_drew ?_ | refine blk_alloc ?_ _)); exact BK544.out⟩, ⟨by repeat (first | (with_reducible first | exact HB.out | apply below_alloc | apply pw_below_drewN | apply below_drew1 | refine below_set ?_ GE544.out) | exact HB.out)⟩⟩
   rw [if_neg c12] at H
   have c12b0 : decide (2147483647 < (l5.length : Int)) = false := decide_eq_false c12
   have c12b1 : decide (2147483647 < l5.length) = false := decide_eq_false (by omega)
   clear c12
   (first | rw [c12b0] | (simp only [i64_w, i32_w]; rw [c12b0]) | skip)
   have H' := Aside0.mk H
   clear H
   go_wp2_with (first | ((with_reducible refine gate_callee (f := 27) rfl ?_); refine goesL_ (some 24) rfl rfl Tryd.func27 (by kernel_rfl) rfl #[.slice A4 l4.length c4] rfl (by (try simp only [List.map_toArray, List.map_cons, List.map_nil]); first | done | rfl | (simp only [List.length_drop, List.length_take]; rfl)) ?_; (with_reducible refine (laws_zzFits2.calls k _ _ l4 true _ ?side1 ?side2 A10.out).mono ?_); (case side1 => repeat (first | exact (Kd.C_below HR4.out HB.out) | (with_reducible refine Kd.C_alloc ?_ _) | (with_reducible refine Kd.C_drewN ?_ _) | (with_reducible refine Kd.C_drew ?_))); (case side2 => exact HC4.out); rintro e w' ⟨rfl, ⟨nd, rfl⟩⟩; refine ⟨_, rfl, ?_⟩))
   go_meet
   case rel => exact ⟨_, (decide ((l6.length : Int) > 2147483647)), (by first | rfl | (simp; done) | (simp [*]; done)), H', ⟨by first | omega | exact Nat.le_refl _⟩, ⟨by (with_reducible repeat (first | refine blk_drewN ?_ _ | refine blk_drew ?_ | refine blk_alloc ?_ _)); exact BK544.out⟩, ⟨by repeat (first | (with_reducible first | exact HB.out | apply below_alloc | apply pw_below_drewN | apply below_drew1 | refine below_set ?_ GE544.out) | exact HB.out)⟩⟩
  replace c11 := Bool.eq_false_iff.mpr c11
  subst c11
  have H1 : (laws_FnConsistencyScaled.j0 k a1 a2 a3 l4 l5 l6 true a0_0 a0_1 a0_2 a0_3 a0_4 a0_5) = some r := by rw [if_neg (show ¬ (false = true) by decide)] at H; exact H
  clear H
  have H := H1
  clear H1
  have H' := Aside0.mk H
  clear H
  go_wp2_with (first | ((with_reducible refine gate_callee (f := 27) rfl ?_); refine goesL_ (some 24) rfl rfl Tryd.func27 (by kernel_rfl) rfl #[.slice A4 l4.length c4] rfl (by (try simp only [List.map_toArray, List.map_cons, List.map_nil]); first | done | rfl | (simp only [List.length_drop, List.length_take]; rfl)) ?_; (with_reducible refine (laws_zzFits2.calls k _ _ l4 false _ ?side1 ?side2 A10.out).mono ?_); (case side1 => repeat (first | exact (Kd.C_below HR4.out HB.out) | (with_reducible refine Kd.C_alloc ?_ _) | (with_reducible refine Kd.C_drewN ?_ _) | (with_reducible refine Kd.C_drew ?_))); (case side2 => exact HC4.out); rintro e w' ⟨rfl, ⟨nd, rfl⟩⟩; refine ⟨_, rfl, ?_⟩))
  go_meet
  case rel => exact ⟨_, (true), (by first | rfl | (simp; done) | (simp [*]; done)), H', ⟨by first | omega | exact Nat.le_refl _⟩, ⟨by (with_reducible repeat (first | refine blk_drewN ?_ _ | refine blk_drew ?_ | refine blk_alloc ?_ _)); exact BK544.out⟩, ⟨by repeat (first | (with_reducible first | exact HB.out | apply below_alloc | apply pw_below_drewN | apply below_drew1 | refine below_set ?_ GE544.out) | exact HB.out)⟩⟩
 clear HC8
 try clear c1
 try clear c2
 try clear p2
 try clear c4
 try clear c5
 try clear c6
 try clear c11
 try clear c12
 try clear c12b0
 try clear c12b1
 obtain ⟨kq, x35_7, rfl, HA, HJ7, BK544, HB⟩ := hcut
 obtain _ | kj7 := kq
 ·exact absurd HA.out (by simp [laws_FnConsistencyScaled.j0])
 have H := HA.out
 clear HA
 simp only [laws_FnConsistencyScaled.j0] at H
 have HC13 := Aside0.mk H
 clear H
 go_upto_if 35 with (fail)
 go_cut [] (fun wc => ∃ (kq : Nat), Aside0 (laws_FnConsistencyScaled.j1 kq a1 a2 a3 l4 l5 l6 a0_0 a0_1 a0_2 a0_3 a0_4 a0_5 = some r) ∧ Aside0 (kq ≤ kj7) ∧ Aside0 (wc.heap[gb544]? = some (.cells #[.int .i64 a0_0, .int .i64 a0_1, .int .i64 a0_2, .int .u64 a0_3, .int .u64 a0_4, .int .u64 a0_5] 37 (0, 0))) ∧ Aside0 (Below w.heap.size w wc))
 case first =>
  have H := HC13.out
  clear HC13
  by_cases c14 : x35_7 = true
  ·subst c14
   have H1 : (some true) = some r := by rw [if_pos rfl] at H; exact H
   clear H
   have H := H1
   clear H1
   obtain rfl := Option.some.inj H
   go_wp2
   go_ret
   exact ⟨by first | rfl | (simp [errW_none, errW_some] <;> rfl) | (simp [*, errW_none, errW_some] <;> rfl), by repeat (first | (with_reducible first | exact HB.out | apply below_alloc | apply pw_below_drewN | apply below_drew1 | refine below_set ?_ GE544.out) | exact HB.out)⟩
  replace c14 := Bool.eq_false_iff.mpr c14
  subst c14
  have H1 : (laws_FnConsistencyScaled.j1 kj7 a1 a2 a3 l4 l5 l6 a0_0 a0_1 a0_2 a0_3 a0_4 a0_5) = some r := by rw [if_neg (show ¬ (false = true) by decide)] at H; exact H
  clear H
  have H := H1
  clear H1
  have H' := Aside0.mk H
  clear H
  go_wp2
  go_meet
  case rel => exact ⟨_, H', ⟨by have := HJ7.out; first | omega | exact Nat.le_refl _⟩, ⟨by (with_reducible repeat (first | refine blk_drewN ?_ _ | refine blk_drew ?_ | refine blk_alloc ?_ _)); exact BK544.out⟩, ⟨by repeat (first | (with_reducible first | exact HB.out | apply below_alloc | apply pw_below_drewN | apply below_drew1 | refine below_set ?_ GE544.out) | exact HB.out)⟩⟩
 clear HC13
 try clear c1
 try clear c2
 try clear p2
 try clear c4
 try clear c5
 try clear c6
 try clear c11
 try clear c12
 try clear c12b0
 try clear c12b1
 try clear c14
 try clear p2
 obtain ⟨kq, HA, HJ12, BK544, HB⟩ := hcut
 obtain _ | kj12 := kq
 ·exact absurd HA.out (by simp [laws_FnConsistencyScaled.j1])
 have H := HA.out
 clear HA
 simp only [laws_FnConsistencyScaled.j1] at H
 have HC15 := Aside0.mk H
 clear H
 go_upto_region 3 with (fail)
 go_cut [58] (fun v58 wc => ∃ (kq : Nat) (x58_14 : Bool), v58 = .bool x58_14 ∧ Aside0 (laws_FnConsistencyScaled.j2 kq a1 a2 a3 l4 l5 l6 x58_14 a0_0 a0_1 a0_2 a0_3 a0_4 a0_5 = some r) ∧ Aside0 (kq ≤ kj12) ∧ Aside0 (wc.heap[gb544]? = some (.cells #[.int .i64 a0_0, .int .i64 a0_1, .int .i64 a0_2, .int .u64 a0_3, .int .u64 a0_4, .int .u64 a0_5] 37 (0, 0))) ∧ Aside0 (Below w.heap.size w wc))
 case first =>
  have H := HC15.out
  clear HC15
  by_cases c16 : a1 = 0
  ·rw [if_pos c16] at H
   have c16b0 : (a1 == 0) = true := beq_iff_eq.mpr c16
   have c16b1 : (a1 != 0) = false := bne_eq_false_iff_eq.mpr c16
   clear c16
   (first | rw [c16b0] | (simp only [i64_w, i32_w]; rw [c16b0]) | skip)
   have H' := Aside0.mk H
   clear H
   go_wp2
   go_meet
   case rel => exact ⟨_, (true), (by first | rfl | (simp; done) | (simp [*]; done)), H', ⟨by have := HJ7.out; have := HJ12.out; first | omega | exact Nat.le_refl _⟩, ⟨by (with_reducible repeat (first | refine blk_drewN ?_ _ | refine blk_drew ?_ | refine blk_alloc ?_ _)); exact BK544.out⟩, ⟨by repeat (first | (with_reducible first | exact HB.out | apply below_alloc | apply pw_below_drewN | apply below_drew1 | refine below_set ?_ GE544.out) | exact HB.out)⟩⟩
  rw [if_neg c16] at H
  have c16b0 : (a1 == 0) = false := beq_eq_false_iff_ne.mpr c16
  have c16b1 : (a1 != 0) = true := bne_iff_ne.mpr c16
  (first | rw [c16b0] | (simp only [i64_w, i32_w]; rw [c16b0]) | skip)
  by_cases c17 : a1 ≥ a2
  ·rw [if_pos c17] at H
   have c17b0 : decide (a2 ≤ a1) = true := decide_eq_true c17
   clear c17
   have H' := Aside0.mk H
   clear H
   go_wp2
   go_meet
   case rel => exact ⟨_, (true), (by first | rfl | (simp; done) | (simp [*]; done)), H', ⟨by have := HJ7.out; have := HJ12.out; first | omega | exact Nat.le_refl _⟩, ⟨by (with_reducible repeat (first | refine blk_drewN ?_ _ | refine blk_drew ?_ | refine blk_alloc ?_ _)); exact BK544.out⟩, ⟨by repeat (first | (with_reducible first | exact HB.out | apply below_alloc | apply pw_below_drewN | apply below_drew1 | refine below_set ?_ GE544.out) | exact HB.out)⟩⟩
  rw [if_neg c17] at H
  have c17b0 : decide (a2 ≤ a1) = false := decide_eq_false c17
  clear c17
  replace H := Option.bind_eq_some_iff.mp H
  obtain ⟨t546, A180, H⟩ := H
  replace H : (if t546 = true then ((laws_logSmall.f kj12 l4).bind fun t547 => (if t547 = true then (laws_FnConsistencyScaled.j2 kj12 a1 a2 a3 l4 l5 l6 (decide ((l5.length : Int) > 5000)) a0_0 a0_1 a0_2 a0_3 a0_4 a0_5) else (laws_FnConsistencyScaled.j2 kj12 a1 a2 a3 l4 l5 l6 true a0_0 a0_1 a0_2 a0_3 a0_4 a0_5))) else (laws_FnConsistencyScaled.j2 kj12 a1 a2 a3 l4 l5 l6 true a0_0 a0_1 a0_2 a0_3 a0_4 a0_5)) = some r := H
  have A18 := Aside0.mk A180
  clear A180
  by_cases c19 : t546 = true
  ·subst c19
   have H1 : ((laws_logSmall.f kj12 l4).bind fun t547 => (if t547 = true then (laws_FnConsistencyScaled.j2 kj12 a1 a2 a3 l4 l5 l6 (decide ((l5.length : Int) > 5000)) a0_0 a0_1 a0_2 a0_3 a0_4 a0_5) else (laws_FnConsistencyScaled.j2 kj12 a1 a2 a3 l4 l5 l6 true a0_0 a0_1 a0_2 a0_3 a0_4 a0_5))) = some r := by rw [if_pos rfl] at H; exact H
   clear H
   have H := H1
   clear H1
   replace H := Option.bind_eq_some_iff.mp H
   obtain ⟨t547, A200, H⟩ := H
   replace H : (if t547 = true then (laws_FnConsistencyScaled.j2 kj12 a1 a2 a3 l4 l5 l6 (decide ((l5.length : Int) > 5000)) a0_0 a0_1 a0_2 a0_3 a0_4 a0_5) else (laws_FnConsistencyScaled.j2 kj12 a1 a2 a3 l4 l5 l6 true a0_0 a0_1 a0_2 a0_3 a0_4 a0_5)) = some r := H
   have A20 := Aside0.mk A200
   clear A200
   by_cases c21 : t547 = true
   ·subst c21
    have H1 : (laws_FnConsistencyScaled.j2 kj12 a1 a2 a3 l4 l5 l6 (decide ((l5.length : Int) > 5000)) a0_0 a0_1 a0_2 a0_3 a0_4 a0_5) = some r := by rw [if_pos rfl] at H; exact H
    clear H
    have H := H1
    clear H1
    have H' := Aside0.mk H
    clear H
    go_wp2_with (first | (go_at_call 54; (with_reducible refine (laws_scalable.calls a2 a3 true _ A18.out).mono ?_); rintro e w' ⟨rfl, ⟨nd, rfl⟩⟩) | (go_at_call 28; (with_reducible refine (laws_logSmall.calls kj12 _ _ l4 true _ ?side1 ?side2 A20.out).mono ?_); (case side1 => repeat (first | exact (Kd.C_below HR4.out (by repeat (first | (with_reducible first | exact HB.out | apply below_alloc | apply pw_below_drewN | apply below_drew1 | refine below_set ?_ GE544.out) | exact HB.out))) | (with_reducible refine Kd.C_alloc ?_ _) | (with_reducible refine Kd.C_drewN ?_ _) | (with_reducible refine Kd.C_drew ?_))); (case side2 => exact HC4.out); rintro e w' ⟨rfl, ⟨nd, rfl⟩⟩))
    go_meet
    case rel => exact ⟨_, (decide ((l5.length : Int) > 5000)), (by first | rfl | (simp; done) | (simp [*]; done)), H', ⟨by have := HJ7.out; have := HJ12.out; first | omega | exact Nat.le_refl _⟩, ⟨by (with_reducible repeat (first | refine blk_drewN ?_ _ | refine blk_drew ?_ | refine blk_alloc ?_ _)); exact BK544.out⟩, ⟨by repeat (first | (with_reducible first | exact HB.out | apply below_alloc | apply pw_below_drewN | apply below_drew1 | refine below_set ?_ GE544.out) | exact HB.out)⟩⟩
   replace c21 := Bool.eq_false_iff.mpr c21
   subst c21
   have H1 : (laws_FnConsistencyScaled.j2 kj12 a1 a2 a3 l4 l5 l6 true a0_0 a0_1 a0_2 a0_3 a0_4 a0_5) = some r := by rw [if_neg (show ¬ (false = true) by decide)] at H; exact H
   clear H
   have H := H1
   clear H1
   have H' := Aside0.mk H
   clear H
   go_wp2_with (first | (go_at_call 54; (with_reducible refine (laws_scalable.calls a2 a3 true _ A18.out).mono ?_); rintro e w' ⟨rfl, ⟨nd, rfl⟩⟩) | (go_at_call 28; (with_reducible refine (laws_logSmall.calls kj12 _ _ l4 false _ ?side1 ?side2 A20.out).mono ?_); (case side1 => repeat (first | exact (Kd.C_below HR4.out (by repeat (first | (with_reducible first | exact HB.out | apply below_alloc | apply pw_below_drewN | apply below_drew1 | refine below_set ?_ GE544.out) | exact HB.out))) | (with_reducible refine Kd.C_alloc ?_ _) | (with_reducible refine Kd.C_drewN ?_ _) | (with_reducible refine Kd.C_drew ?_))); (case side2 => exact HC4.out); rintro e w' ⟨rfl, ⟨nd, rfl⟩⟩))
   go_meet
   case rel => exact ⟨_, (true), (by first | rfl | (simp; done) | (simp [*]; done)), H', ⟨by have := HJ7.out; have := HJ12.out; first | omega | exact Nat.le_refl _⟩, ⟨by (with_reducible repeat (first | refine blk_drewN ?_ _ | refine blk_drew ?_ | refine blk_alloc ?_ _)); exact BK544.out⟩, ⟨by repeat (first | (with_reducible first | exact HB.out | apply below_alloc | apply pw_below_drewN | apply below_drew1 | refine below_set ?_ GE544.out) | exact HB.out)⟩⟩
  replace c19 := Bool.eq_false_iff.mpr c19
  subst c19
  have H1 : (laws_FnConsistencyScaled.j2 kj12 a1 a2 a3 l4 l5 l6 true a0_0 a0_1 a0_2 a0_3 a0_4 a0_5) = some r := by rw [if_neg (show ¬ (false = true) by decide)] at H; exact H
  clear H
  have H := H1
  clear H1
  have H' := Aside0.mk H
  clear H
  go_wp2_with (first | (go_at_call 54; (with_reducible refine (laws_scalable.calls a2 a3 false _ A18.out).mono ?_); rintro e w' ⟨rfl, ⟨nd, rfl⟩⟩))
  go_meet
  case rel => exact ⟨_, (true), (by first | rfl | (simp; done) | (simp [*]; done)), H', ⟨by have := HJ7.out; have := HJ12.out; first | omega | exact Nat.le_refl _⟩, ⟨by (with_reducible repeat (first | refine blk_drewN ?_ _ | refine blk_drew ?_ | refine blk_alloc ?_ _)); exact BK544.out⟩, ⟨by repeat (first | (with_reducible first | exact HB.out | apply below_alloc | apply pw_below_drewN | apply below_drew1 | refine below_set ?_ GE544.out) | exact HB.out)⟩⟩
 clear HC15
 try clear c1
 try clear c2
 try clear p2
 try clear c4
 try clear c5
 try clear c6
 try clear c11
 try clear c12
 try clear c12b0
 try clear c12b1
 try clear c14
 try clear c16
 try clear c16b0
 try clear c16b1
 try clear c17
 try clear c17b0
 try clear c19
 try clear c21
 try clear p2
 obtain ⟨kq, x58_14, rfl, HA, HJ14, BK544, HB⟩ := hcut
 obtain _ | kj14 := kq
 ·exact absurd HA.out (by simp [laws_FnConsistencyScaled.j2])
 have H := HA.out
 clear HA
 simp only [laws_FnConsistencyScaled.j2] at H
 have HC22 := Aside0.mk H
 clear H
 go_upto_if 58 with (fail)
 go_cut [] (fun wc => ∃ (kq : Nat), Aside0 (laws_FnConsistencyScaled.j3 kq a1 a2 a3 l4 l5 l6 a0_0 a0_1 a0_2 a0_3 a0_4 a0_5 = some r) ∧ Aside0 (kq ≤ kj14) ∧ Aside0 (wc.heap[gb544]? = some (.cells #[.int .i64 a0_0, .int .i64 a0_1, .int .i64 a0_2, .int .u64 a0_3, .int .u64 a0_4, .int .u64 a0_5] 37 (0, 0))) ∧ Aside0 (Below w.heap.size w wc))
 case first =>
  have H := HC22.out
  clear HC22
  by_cases c23 : x58_14 = true
  ·subst c23
   have H1 : (some true) = some r := by rw [if_pos rfl] at H; exact H
   clear H
   have H := H1
   clear H1
   obtain rfl := Option.some.inj H
   go_wp2
   go_ret
   exact ⟨by first | rfl | (simp [errW_none, errW_some] <;> rfl) | (simp [*, errW_none, errW_some] <;> rfl), by repeat (first | (with_reducible first | exact HB.out | apply below_alloc | apply pw_below_drewN | apply below_drew1 | refine below_set ?_ GE544.out) | exact HB.out)⟩
  replace c23 := Bool.eq_false_iff.mpr c23
  subst c23
  have H1 : (laws_FnConsistencyScaled.j3 kj14 a1 a2 a3 l4 l5 l6 a0_0 a0_1 a0_2 a0_3 a0_4 a0_5) = some r := by rw [if_neg (show ¬ (false = true) by decide)] at H; exact H
  clear H
  have H := H1
  clear H1
  have H' := Aside0.mk H
  clear H
  go_wp2
  go_meet
  case rel => exact ⟨_, H', ⟨by have := HJ7.out; have := HJ12.out; have := HJ14.out; first | omega | exact Nat.le_refl _⟩, ⟨by (with_reducible repeat (first | refine blk_drewN ?_ _ | refine blk_drew ?_ | refine blk_alloc ?_ _)); exact BK544.out⟩, ⟨by repeat (first | (with_reducible first | exact HB.out | apply below_alloc | apply pw_below_drewN | apply below_drew1 | refine below_set ?_ GE544.out) | exact HB.out)⟩⟩
 clear HC22
 try clear c1
 try clear c2
 try clear p2
 try clear c4
 try clear c5
 try clear c6
 try clear c11
 try clear c12
 try clear c12b0
 try clear c12b1
 try clear c14
 try clear c16
 try clear c16b0
 try clear c16b1
 try clear c17
 try clear c17b0
 try clear c19
 try clear c21
 try clear c23
 try clear p2
 obtain ⟨kq, HA, HJ21, BK544, HB⟩ := hcut
 obtain _ | kj21 := kq
 ·exact absurd HA.out (by simp [laws_FnConsistencyScaled.j3])
 have H := HA.out
 clear HA
 simp only [laws_FnConsistencyScaled.j3] at H
 replace H := Option.bind_eq_some_iff.mp H
 obtain ⟨⟨t548, t551, t552, t553, t554, t555⟩, A240, H⟩ := H
 replace H : (if 0 ≤ a3 then ((impl_Consistency.f kj21 (shl .u64 a1 a3) (shl .u64 a2 a3)).bind fun bt557 => ((laws_raised.f kj21 t548 a3).bind fun t566 => ((impl_VerifyConsistency.f kj21 a0_0 a0_1 a0_2 a0_3 a0_4 a0_5 a1 a2 l4 l5 l6).bind fun bt569 => ((impl_VerifyConsistency.f kj21 a0_0 a0_1 a0_2 a0_3 a0_4 a0_5 (shl .u64 a1 a3) (shl .u64 a2 a3) l4 l5 l6).bind fun bt573 => (laws_FnConsistencyScaled.j4 kj21 t555 bt557.2.2.2.2.2 bt569.1 bt569.2 bt573.1 bt573.2 t566 (IntKind.u64.wrap (t551 + (IntKind.u64.wrap (a3)))) t552 t553 t554 bt557.1 bt557.2.1 bt557.2.2.1 bt557.2.2.2.1 bt557.2.2.2.2.1))))) else (none)) = some r := H
 have A24 := Aside0.mk A240
 clear A240
 by_cases c25 : 0 ≤ a3
 ·rw [if_pos c25] at H
  have c25b0 := eq_true c25
  have c25b1 : decide (0 ≤ a3) = true := decide_eq_true c25
  clear c25
  obtain ⟨ji26, hji26⟩ : ∃ j_ : Int, (shl .u64 a1 a3) = j_ := ⟨_, rfl⟩
  replace H : ((impl_Consistency.f kj21 (ji26) (shl .u64 a2 a3)).bind fun bt557 => ((laws_raised.f kj21 t548 a3).bind fun t566 => ((impl_VerifyConsistency.f kj21 a0_0 a0_1 a0_2 a0_3 a0_4 a0_5 a1 a2 l4 l5 l6).bind fun bt569 => ((impl_VerifyConsistency.f kj21 a0_0 a0_1 a0_2 a0_3 a0_4 a0_5 (ji26) (shl .u64 a2 a3) l4 l5 l6).bind fun bt573 => (laws_FnConsistencyScaled.j4 kj21 t555 bt557.2.2.2.2.2 bt569.1 bt569.2 bt573.1 bt573.2 t566 (IntKind.u64.wrap (t551 + (IntKind.u64.wrap (a3)))) t552 t553 t554 bt557.1 bt557.2.1 bt557.2.2.1 bt557.2.2.2.1 bt557.2.2.2.2.1))))) = some r := by first | (rw [hji26] at H; exact H) | (simp only [hji26] at H ⊢; exact H)
  (try rw [hji26] at A24)
  have hji26_ : (IntKind.u64.wrap (a1 * 2 ^ min a3.toNat 64)) = ji26 := hji26
  have hji26z : a3 ≤ 64 → (IntKind.u64.wrap (a1 * 2 ^ a3.toNat)) = ji26 := shl_small hji26
  have c27b0 := eq_true (of_decide_eq_true (by first | (with_reducible assumption) | assumption) : 0 ≤ a3)
  obtain ⟨ji28, hji28⟩ : ∃ j_ : Int, (shl .u64 a2 a3) = j_ := ⟨_, rfl⟩
  replace H : ((impl_Consistency.f kj21 (ji26) (ji28)).bind fun bt557 => ((laws_raised.f kj21 t548 a3).bind fun t566 => ((impl_VerifyConsistency.f kj21 a0_0 a0_1 a0_2 a0_3 a0_4 a0_5 a1 a2 l4 l5 l6).bind fun bt569 => ((impl_VerifyConsistency.f kj21 a0_0 a0_1 a0_2 a0_3 a0_4 a0_5 (ji26) (ji28) l4 l5 l6).bind fun bt573 => (laws_FnConsistencyScaled.j4 kj21 t555 bt557.2.2.2.2.2 bt569.1 bt569.2 bt573.1 bt573.2 t566 (IntKind.u64.wrap (t551 + (IntKind.u64.wrap (a3)))) t552 t553 t554 bt557.1 bt557.2.1 bt557.2.2.1 bt557.2.2.2.1 bt557.2.2.2.2.1))))) = some r := by first | (rw [hji28] at H; exact H) | (simp only [hji28] at H ⊢; exact H)
  (try rw [hji28] at A24)
  have hji28_ : (IntKind.u64.wrap (a2 * 2 ^ min a3.toNat 64)) = ji28 := hji28
  have hji28z : a3 ≤ 64 → (IntKind.u64.wrap (a2 * 2 ^ a3.toNat)) = ji28 := shl_small hji28
  replace H := Option.bind_eq_some_iff.mp H
  obtain ⟨⟨t557, t560, t561, t562, t563, t564⟩, A290, H⟩ := H
  replace H : ((laws_raised.f kj21 t548 a3).bind fun t566 => ((impl_VerifyConsistency.f kj21 a0_0 a0_1 a0_2 a0_3 a0_4 a0_5 a1 a2 l4 l5 l6).bind fun bt569 => ((impl_VerifyConsistency.f kj21 a0_0 a0_1 a0_2 a0_3 a0_4 a0_5 (ji26) (ji28) l4 l5 l6).bind fun bt573 => (laws_FnConsistencyScaled.j4 kj21 t555 t564 bt569.1 bt569.2 bt573.1 bt573.2 t566 (IntKind.u64.wrap (t551 + (IntKind.u64.wrap (a3)))) t552 t553 t554 t557 t560 t561 t562 t563)))) = some r := H
  have A29 := Aside0.mk A290
  clear A290
  replace H := Option.bind_eq_some_iff.mp H
  obtain ⟨t566, A300, H⟩ := H
  replace H : ((impl_VerifyConsistency.f kj21 a0_0 a0_1 a0_2 a0_3 a0_4 a0_5 a1 a2 l4 l5 l6).bind fun bt569 => ((impl_VerifyConsistency.f kj21 a0_0 a0_1 a0_2 a0_3 a0_4 a0_5 (ji26) (ji28) l4 l5 l6).bind fun bt573 => (laws_FnConsistencyScaled.j4 kj21 t555 t564 bt569.1 bt569.2 bt573.1 bt573.2 t566 (IntKind.u64.wrap (t551 + (IntKind.u64.wrap (a3)))) t552 t553 t554 t557 t560 t561 t562 t563))) = some r := H
  have A30 := Aside0.mk A300
  clear A300
  replace H := Option.bind_eq_some_iff.mp H
  obtain ⟨⟨t569, t570⟩, A310, H⟩ := H
  replace H : ((impl_VerifyConsistency.f kj21 a0_0 a0_1 a0_2 a0_3 a0_4 a0_5 (ji26) (ji28) l4 l5 l6).bind fun bt573 => (laws_FnConsistencyScaled.j4 kj21 t555 t564 t569 t570 bt573.1 bt573.2 t566 (IntKind.u64.wrap (t551 + (IntKind.u64.wrap (a3)))) t552 t553 t554 t557 t560 t561 t562 t563)) = some r := H
  have A31 := Aside0.mk A310
  clear A310
  have HC32 := Aside0.mk H
  clear H
  try go_wp2_with (first | ((with_reducible refine gate_callee (f := 40) rfl ?_); refine goesL_ (some 62) rfl rfl Tryd.func40 (by kernel_rfl) rfl #[.int .u64 a1, .int .u64 a2] rfl (by (try simp only [List.map_toArray, List.map_cons, List.map_nil]); first | done | rfl | (simp only [List.length_drop, List.length_take]; rfl)) ?_; (with_reducible refine (impl_Consistency.calls kj21 a1 a2 t548 t551 t552 t553 t554 t555 _ ?side1 A24.out).mono ?_); (case side1 => exact GlobT.below hGT (by repeat (first | (with_reducible first | exact HB.out | apply below_alloc | apply pw_below_drewN | apply below_drew1 | refine below_set ?_ GE544.out) | exact HB.out))); rintro e w33 ⟨v549, rfl, ho0, hb⟩; refine ⟨_, rfl, ?_⟩; have n0_ := Aside0.mk (Kd.R_lower ho0 (below_size (by repeat (first | (with_reducible first | exact HB.out | apply below_alloc | apply pw_below_drewN | apply below_drew1 | refine below_set ?_ GE544.out) | exact HB.out)))); have n1_ := Aside0.mk (blk_below (g := gb544) (o := .cells #[.int .i64 a0_0, .int .i64 a0_1, .int .i64 a0_2, .int .u64 a0_3, .int .u64 a0_4, .int .u64 a0_5] 37 (0, 0)) (by (with_reducible repeat (first | refine blk_drewN ?_ _ | refine blk_drew ?_ | refine blk_alloc ?_ _)); exact BK544.out) hb); have n2_ := Aside0.mk (below_step (by repeat (first | (with_reducible first | exact HB.out | apply below_alloc | apply pw_below_drewN | apply below_drew1 | refine below_set ?_ GE544.out) | exact HB.out)) hb); clear BK544; clear HB; have HO550 := n0_; have BK544 := n1_; have HB := n2_; clear n0_ n1_ n2_; (try clear hb); (try clear hb2); (try clear hk); (try clear hi); (try clear ho0)) | ((with_reducible refine gate_dst (N := 15) rfl ?_); (try (refine gate_guard (by rfl) ?_; dsimp only)); refine box_event ?hg (N := 15) ?hd (cs := #[.slice none 0 0, .int .u64 0, .int .u64 0, .int .i64 0, .int .i64 0]) (t := 72) ?hr ?_; (case hd => rfl); (case hg => rfl); (case hr => first | (go_simp; done) | (go_simp; rfl)); intro gb556 hg w34 hbox hb; have n0_ := Aside0.mk (Kd.R_below (by (with_reducible repeat (first | apply Kd.R_alloc | apply Kd.R_drewN | apply Kd.R_drew)); exact HO550.out) hb); have n1_ := Aside0.mk (blk_below (g := gb544) (o := .cells #[.int .i64 a0_0, .int .i64 a0_1, .int .i64 a0_2, .int .u64 a0_3, .int .u64 a0_4, .int .u64 a0_5] 37 (0, 0)) (by (with_reducible repeat (first | refine blk_drewN ?_ _ | refine blk_drew ?_ | refine blk_alloc ?_ _)); exact BK544.out) hb); have n2_ := Aside0.mk (below_step (by repeat (first | (with_reducible first | exact HB.out | apply below_alloc | apply pw_below_drewN | apply below_drew1 | refine below_set ?_ GE544.out) | exact HB.out)) hb); have n3_ := Aside0.mk (hbox); have n4_ := Aside0.mk ((by rw [hg]; exact (below_size (by repeat (first | (with_reducible first | exact HB.out | apply below_alloc | apply pw_below_drewN | apply below_drew1 | refine below_set ?_ GE544.out) | exact HB.out))) : w.heap.size ≤ gb556)); have n5_ := Aside0.mk ((by rw [hg]; exact (below_size (by repeat (first | (with_reducible first | exact HB.out | apply below_alloc | apply pw_below_drewN | apply below_drew1 | refine below_set ?_ GE544.out) | exact HB.out))) : w.heap.size ≤ gb556)); have n6_ := Aside0.mk ((by rw [hg]; exact Nat.ne_of_lt (blk_lt (g := gb544) (o := .cells #[.int .i64 a0_0, .int .i64 a0_1, .int .i64 a0_2, .int .u64 a0_3, .int .u64 a0_4, .int .u64 a0_5] 37 (0, 0)) (by (with_reducible repeat (first | refine blk_drewN ?_ _ | refine blk_drew ?_ | refine blk_alloc ?_ _)); exact BK544.out)) : gb544 ≠ gb556)); have n7_ := Aside0.mk ((by rw [hg]; exact Nat.ne_of_gt (blk_lt (g := gb544) (o := .cells #[.int .i64 a0_0, .int .i64 a0_1, .int .i64 a0_2, .int .u64 a0_3, .int .u64 a0_4, .int .u64 a0_5] 37 (0, 0)) (by (with_reducible repeat (first | refine blk_drewN ?_ _ | refine blk_drew ?_ | refine blk_alloc ?_ _)); exact BK544.out)) : gb556 ≠ gb544)); clear HO550; clear BK544; clear HB; have HO550 := n0_; have BK544 := n1_; have HB := n2_; have BK556 := n3_; have GW556 := n4_; have GE556 := n5_; have NB544_556 := n6_; have NB556_544 := n7_; clear n0_ n1_ n2_ n3_ n4_ n5_ n6_ n7_; clear hb hbox hg; obtain ⟨Ao35, co35, eo35⟩ := Kd.R_slice HO550.out; subst eo35; have hnb36 := NB556_544.out; have hnc36 := NB544_556.out; have hcz37_0 : w34.cell? ⟨gb556, 0, none⟩ = some (.slice none 0 0) := (blk_cell BK556.out 0).trans rfl; have hcz37_1 : w34.cell? ⟨gb556, 1, none⟩ = some (.int .u64 0) := (blk_cell BK556.out 1).trans rfl; have hcz37_2 : w34.cell? ⟨gb556, 2, none⟩ = some (.int .u64 0) := (blk_cell BK556.out 2).trans rfl; have hcz37_3 : w34.cell? ⟨gb556, 3, none⟩ = some (.int .i64 0) := (blk_cell BK556.out 3).trans rfl; have hcz37_4 : w34.cell? ⟨gb556, 4, none⟩ = some (.int .i64 0) := (blk_cell BK556.out 4).trans rfl; have hfz37_0 := blk_frozen BK556.out 0; have hfz37_1 := blk_frozen BK556.out 1; have hfz37_2 := blk_frozen BK556.out 2; have hfz37_3 := blk_frozen BK556.out 3; have hfz37_4 := blk_frozen BK556.out 4))
  have n0_ : Aside0 (Kd.R k70 70 (((((w34.setCell ⟨gb556, 0, none⟩ (.slice Ao35 t548.length co35)).setCell ⟨gb556, 1, none⟩ (.int .u64 t551)).setCell ⟨gb556, 2, none⟩ (.int .u64 t552)).setCell ⟨gb556, 3, none⟩ (.int .i64 t553)).setCell ⟨gb556, 4, none⟩ (.int .i64 t554)) w.heap.size (fun _ => True) (.slice Ao35 t548.length co35) t548) := ⟨by (with_reducible repeat (first | apply Kd.R_alloc | apply Kd.R_drewN | apply Kd.R_drew)); exact Kd.R_mono (Kd.R_far (p := ⟨gb556, 4, none⟩) (Kd.R_far (p := ⟨gb556, 3, none⟩) (Kd.R_far (p := ⟨gb556, 2, none⟩) (Kd.R_far (p := ⟨gb556, 1, none⟩) (Kd.R_far (p := ⟨gb556, 0, none⟩) (Kd.R_types HO550.out BK556.out (by decide)) (fun _ hk => hk.2) (.slice Ao35 t548.length co35)) (fun _ hk => hk.2) (.int .u64 t551)) (fun _ hk => hk.2) (.int .u64 t552)) (fun _ hk => hk.2) (.int .i64 t553)) (fun _ hk => hk.2) (.int .i64 t554)) (fun _ hk => trivial)⟩
  have n1_ : Aside0 ((((((w34.setCell ⟨gb556, 0, none⟩ (.slice Ao35 t548.length co35)).setCell ⟨gb556, 1, none⟩ (.int .u64 t551)).setCell ⟨gb556, 2, none⟩ (.int .u64 t552)).setCell ⟨gb556, 3, none⟩ (.int .i64 t553)).setCell ⟨gb556, 4, none⟩ (.int .i64 t554)).heap[gb544]? = some (.cells #[.int .i64 a0_0, .int .i64 a0_1, .int .i64 a0_2, .int .u64 a0_3, .int .u64 a0_4, .int .u64 a0_5] 37 (0, 0))) := ⟨by (with_reducible repeat (first | refine blk_drewN ?_ _ | refine blk_drew ?_ | refine blk_alloc ?_ _)); refine blk_far ?_ NB544_556.out _; (with_reducible repeat (first | refine blk_drewN ?_ _ | refine blk_drew ?_ | refine blk_alloc ?_ _)); refine blk_far ?_ NB544_556.out _; (with_reducible repeat (first | refine blk_drewN ?_ _ | refine blk_drew ?_ | refine blk_alloc ?_ _)); refine blk_far ?_ NB544_556.out _; (with_reducible repeat (first | refine blk_drewN ?_ _ | refine blk_drew ?_ | refine blk_alloc ?_ _)); refine blk_far ?_ NB544_556.out _; (with_reducible repeat (first | refine blk_drewN ?_ _ | refine blk_drew ?_ | refine blk_alloc ?_ _)); refine blk_far ?_ NB544_556.out _; (with_reducible repeat (first | refine blk_drewN ?_ _ | refine blk_drew ?_ | refine blk_alloc ?_ _)); exact BK544.out⟩
  have n2_ : Aside0 ((((((w34.setCell ⟨gb556, 0, none⟩ (.slice Ao35 t548.length co35)).setCell ⟨gb556, 1, none⟩ (.int .u64 t551)).setCell ⟨gb556, 2, none⟩ (.int .u64 t552)).setCell ⟨gb556, 3, none⟩ (.int .i64 t553)).setCell ⟨gb556, 4, none⟩ (.int .i64 t554)).heap[gb556]? = some (.cells #[.slice Ao35 t548.length co35, .int .u64 t551, .int .u64 t552, .int .i64 t553, .int .i64 t554] 72 (0, 0))) := ⟨by (with_reducible repeat (first | refine blk_drewN ?_ _ | refine blk_drew ?_ | refine blk_alloc ?_ _)); refine blk_put (cs := #[.slice Ao35 t548.length co35, .int .u64 t551, .int .u64 t552, .int .i64 t553, .int .i64 0]) ?_ 4 _ rfl; (with_reducible repeat (first | refine blk_drewN ?_ _ | refine blk_drew ?_ | refine blk_alloc ?_ _)); refine blk_put (cs := #[.slice Ao35 t548.length co35, .int .u64 t551, .int .u64 t552, .int .i64 0, .int .i64 0]) ?_ 3 _ rfl; (with_reducible repeat (first | refine blk_drewN ?_ _ | refine blk_drew ?_ | refine blk_alloc ?_ _)); refine blk_put (cs := #[.slice Ao35 t548.length co35, .int .u64 t551, .int .u64 0, .int .i64 0, .int .i64 0]) ?_ 2 _ rfl; (with_reducible repeat (first | refine blk_drewN ?_ _ | refine blk_drew ?_ | refine blk_alloc ?_ _)); refine blk_put (cs := #[.slice Ao35 t548.length co35, .int .u64 0, .int .u64 0, .int .i64 0, .int .i64 0]) ?_ 1 _ rfl; (with_reducible repeat (first | refine blk_drewN ?_ _ | refine blk_drew ?_ | refine blk_alloc ?_ _)); refine blk_put (cs := #[.slice none 0 0, .int .u64 0, .int .u64 0, .int .i64 0, .int .i64 0]) ?_ 0 _ rfl; (with_reducible repeat (first | refine blk_drewN ?_ _ | refine blk_drew ?_ | refine blk_alloc ?_ _)); exact BK556.out⟩
  have n3_ : Aside0 (Below w.heap.size w (((((w34.setCell ⟨gb556, 0, none⟩ (.slice Ao35 t548.length co35)).setCell ⟨gb556, 1, none⟩ (.int .u64 t551)).setCell ⟨gb556, 2, none⟩ (.int .u64 t552)).setCell ⟨gb556, 3, none⟩ (.int .i64 t553)).setCell ⟨gb556, 4, none⟩ (.int .i64 t554))) := ⟨by repeat (first | (with_reducible first | exact HB.out | apply below_alloc | apply pw_below_drewN | apply below_drew1 | refine below_set ?_ GE544.out | refine below_set ?_ GE556.out) | exact HB.out)⟩
  (try clear HO550)
  (try clear BK544)
  (try clear BK556)
  (try clear HB)
  generalize (((((w34.setCell ⟨gb556, 0, none⟩ (.slice Ao35 t548.length co35)).setCell ⟨gb556, 1, none⟩ (.int .u64 t551)).setCell ⟨gb556, 2, none⟩ (.int .u64 t552)).setCell ⟨gb556, 3, none⟩ (.int .i64 t553)).setCell ⟨gb556, 4, none⟩ (.int .i64 t554)) = w38 at n0_ n1_ n2_ n3_ ⊢
  have HO550 := n0_
  have BK544 := n1_
  have BK556 := n2_
  have HB := n3_
  clear n0_ n1_ n2_ n3_
  have n0_ := Aside0.mk (Kd.R_drew HO550.out)
  have n1_ := Aside0.mk (blk_drew BK544.out)
  have n2_ := Aside0.mk (blk_drew BK556.out)
  have n3_ := Aside0.mk (below_drew1 HB.out)
  clear HO550
  clear BK544
  clear BK556
  clear HB
  have HO550 := n0_
  have BK544 := n1_
  have BK556 := n2_
  have HB := n3_
  clear n0_ n1_ n2_ n3_
  refine start_ (n := 13) (S := fun w' => True) (ds := []) #[false, false, false, false, false, false, false, false, false, false, false, false, false] (by kernel_rfl) rfl rfl trivial (fun hHeld => ?_); refine with_tabW laws_FnConsistencyScaled.tab6 laws_FnConsistencyScaled.bits6 (fun HT_ HW_ => ?_)
  generalize w38.drew = w39 at HO550 BK544 BK556 HB hHeld ⊢
  refine pure_ (i := 0) (N := some 66) (v := ?_) (a' := ?_) #[true, false, false, false, false, false, false, false, false, false, false, false, false] rfl rfl (any_of HT_.out (by kernel_rfl)) (fun _ _ _ h => h) (Or.inl ⟨by rfl, ?_⟩) ?_ ?_
  rotate_left
  ·intro w'
   go_simp
   with_reducible rfl
  rotate_left
  ·simp only [Act.put, sA_, sB_, sC_, i64_w, i32_w]
   rfl
  refine pure_ (i := 1) (N := some 67) (v := ?_) (a' := ?_) #[true, true, false, false, false, false, false, false, false, false, false, false, false] rfl rfl (any_of HT_.out (by kernel_rfl)) (fun _ _ _ h => h) (Or.inl ⟨by rfl, ?_⟩) ?_ ?_
  rotate_left
  ·intro w'
   go_simp
   with_reducible rfl
  rotate_left
  ·simp only [Act.put, sA_, sB_, sC_, i64_w, i32_w]
   rfl
  refine pure_ (i := 2) (N := some 68) (v := ?_) (a' := ?_) #[true, true, true, false, false, false, false, false, false, false, false, false, false] rfl rfl (any_of HT_.out (by kernel_rfl)) (fun _ _ _ h => h) (Or.inl ⟨by rfl, ?_⟩) ?_ ?_
  rotate_left
  ·intro w'
   go_simp
   with_reducible rfl
  rotate_left
  ·simp only [Act.put, sA_, sB_, sC_, i64_w, i32_w]
   rfl
  refine pure_ (i := 3) (N := some 69) (v := ?_) (a' := ?_) #[true, true, true, true, false, false, false, false, false, false, false, false, false] rfl rfl (any_of HT_.out (by kernel_rfl)) (fun _ _ _ h => h) (Or.inl ⟨by rfl, ?_⟩) ?_ ?_
  rotate_left
  ·intro w'
   go_simp
   with_reducible rfl
  rotate_left
  ·simp only [Act.put, sA_, sB_, sC_, i64_w, i32_w]
   rfl
  refine pure_ (i := 4) (N := some 70) (v := ?_) (a' := ?_) #[true, true, true, true, true, false, false, false, false, false, false, false, false] rfl rfl (any_of HT_.out (by kernel_rfl)) (fun _ _ _ h => h) (Or.inl ⟨by rfl, ?_⟩) ?_ ?_
  rotate_left
  ·intro w'
   go_simp
   with_reducible rfl
  rotate_left
  ·simp only [Act.put, sA_, sB_, sC_, i64_w, i32_w]
   rfl
  refine pure_ (i := 5) (N := some 71) (v := ?_) (a' := ?_) #[true, true, true, true, true, true, false, false, false, false, false, false, false] rfl rfl (any_of HT_.out (by kernel_rfl)) (fun _ _ _ h => h) (Or.inl ⟨by rfl, ?_⟩) ?_ ?_
  rotate_left
  ·intro w'
   go_simp
   with_reducible rfl
  rotate_left
  ·simp only [Act.put, sA_, sB_, sC_, i64_w, i32_w]
   rfl
  refine join_ (σ := Value × Nat) 2 #[true, true, true, true, true, true, true, true, true, true, true, false, false] (fun s_ => [(72, .tuple #[.agg #[s_.1, .int .u64 t560, .int .u64 t561, .int .i64 t562, .int .i64 t563], .bool t564]), (17, .pointer (some ⟨s_.2, 0, none⟩)), (65, .tuple #[.agg #[s_.1, .int .u64 t560, .int .u64 t561, .int .i64 t562, .int .i64 t563], .bool t564]), (73, .agg #[s_.1, .int .u64 t560, .int .u64 t561, .int .i64 t562, .int .i64 t563]), (74, .bool t564)]) (fun s_ w' => (Kd.R k70 70 w' w.heap.size (fun k_ => some k_ ≠ (s_.1 : Value).ownBlock) (.slice Ao35 t548.length co35) t548) ∧ (Kd.R k70 70 w' w.heap.size (fun k_ => some k_ ≠ (.slice Ao35 t548.length co35 : Value).ownBlock) s_.1 t557) ∧ (w'.heap[gb544]? = some (.cells #[.int .i64 a0_0, .int .i64 a0_1, .int .i64 a0_2, .int .u64 a0_3, .int .u64 a0_4, .int .u64 a0_5] 37 (0, 0))) ∧ (w'.heap[gb556]? = some (.cells #[.slice Ao35 t548.length co35, .int .u64 t551, .int .u64 t552, .int .i64 t553, .int .i64 t554] 72 (0, 0))) ∧ (w'.heap[s_.2]? = some (.cells #[.slice none 0 0, .int .u64 0, .int .u64 0, .int .i64 0, .int .i64 0] 72 (0, 0))) ∧ (w.heap.size ≤ s_.2) ∧ (w.heap.size ≤ s_.2) ∧ (gb544 ≠ s_.2) ∧ (s_.2 ≠ gb544) ∧ (gb556 ≠ s_.2) ∧ (s_.2 ≠ gb556) ∧ (Below w.heap.size w w')) ?_ ?_
  rotate_left
  ·intro hCont
   refine two_ (i := 6) (j := 10) (Ni := some 72) (Nj := some 17) #[true, true, true, true, true, true, true, false, false, false, false, false, false] #[true, true, true, true, true, true, false, false, false, false, true, false, false] rfl rfl rfl rfl (two_of HT_.out (by kernel_rfl)) (by decide) (by decide) (fun K hK => ?_) (fun K hK => ?_)
   ·skip
    refine goes_ Tryd.func40 (by kernel_rfl) rfl #[.int .u64 ji26, .int .u64 ji28] (by rfl) rfl rfl (by (try simp only [List.map_toArray, List.map_cons, List.map_nil]); first | done | (simp only [hji26, hji28]; rfl) | rfl | (simp only [List.length_drop, List.length_take]; rfl)) ?_
    with_reducible refine (impl_Consistency.calls kj21 ji26 ji28 t557 t560 t561 t562 t563 t564 _ ?side1 A29.out).mono ?_
    (case side1 => exact GlobT.below hGT (by repeat (first | (with_reducible first | exact HB.out | apply below_alloc | apply pw_below_drewN | apply below_drew1 | refine below_set ?_ GE544.out | refine below_set ?_ GE556.out) | exact HB.out)))
    rintro e w40 ⟨v558, rfl, ho0, hb⟩
    refine ⟨_, rfl, ?_⟩
    have n0_ := Aside0.mk (Kd.R_elder' (by (with_reducible repeat (first | apply Kd.R_alloc | apply Kd.R_drewN | apply Kd.R_drew)); exact HO550.out) (Kd.R_base ho0) hb)
    have n1_ := Aside0.mk (Kd.R_lower (Kd.R_new' ho0 (Kd.R_lt (by (with_reducible repeat (first | apply Kd.R_alloc | apply Kd.R_drewN | apply Kd.R_drew)); exact HO550.out))) (below_size (by repeat (first | (with_reducible first | exact HB.out | apply below_alloc | apply pw_below_drewN | apply below_drew1 | refine below_set ?_ GE544.out | refine below_set ?_ GE556.out) | exact HB.out))))
    have n2_ := Aside0.mk (blk_below (g := gb544) (o := .cells #[.int .i64 a0_0, .int .i64 a0_1, .int .i64 a0_2, .int .u64 a0_3, .int .u64 a0_4, .int .u64 a0_5] 37 (0, 0)) (by (with_reducible repeat (first | refine blk_drewN ?_ _ | refine blk_drew ?_ | refine blk_alloc ?_ _)); exact BK544.out) hb)
    have n3_ := Aside0.mk (blk_below (g := gb556) (o := .cells #[.slice Ao35 t548.length co35, .int .u64 t551, .int .u64 t552, .int .i64 t553, .int .i64 t554] 72 (0, 0)) (by (with_reducible repeat (first | refine blk_drewN ?_ _ | refine blk_drew ?_ | refine blk_alloc ?_ _)); exact BK556.out) hb)
    have n4_ := Aside0.mk (below_step (by repeat (first | (with_reducible first | exact HB.out | apply below_alloc | apply pw_below_drewN | apply below_drew1 | refine below_set ?_ GE544.out | refine below_set ?_ GE556.out) | exact HB.out)) hb)
    clear HO550
    clear BK544
    clear BK556
    clear HB
    have HO550 := n0_
    have HO559 := n1_
    have BK544 := n2_
    have BK556 := n3_
    have HB := n4_
    clear n0_ n1_ n2_ n3_ n4_
    (try clear hb)
    (try clear hb2)
    (try clear hk)
    (try clear hi)
    (try clear ho0)
    refine hK.out _ _ trivial (fun hHeld => ?_)
    clear hK K
    refine norm_ (a' := ?_) ?_ ?_
    rotate_left
    ·show Act.put _ (some 72) _ = _
     simp only [Act.put, sA_, sB_, sC_, i64_w, i32_w]
     rfl
    refine pure_ (i := 7) (N := some 65) (v := ?_) (a' := ?_) #[true, true, true, true, true, true, true, true, false, false, false, false, false] rfl rfl (any_of HT_.out (by kernel_rfl)) (fun _ _ _ h => h) (Or.inl ⟨by rfl, ?_⟩) ?_ ?_
    rotate_left
    ·intro w'
     go_simp
     with_reducible rfl
    rotate_left
    ·simp only [Act.put, sA_, sB_, sC_, i64_w, i32_w]
     rfl
    refine pure_ (i := 8) (N := some 73) (v := ?_) (a' := ?_) #[true, true, true, true, true, true, true, true, true, false, false, false, false] rfl rfl (any_of HT_.out (by kernel_rfl)) (fun _ _ _ h => h) (Or.inl ⟨by rfl, ?_⟩) ?_ ?_
    rotate_left
    ·intro w'
     go_simp
     with_reducible rfl
    rotate_left
    ·simp only [Act.put, sA_, sB_, sC_, i64_w, i32_w]
     rfl
    refine pure_ (i := 9) (N := some 74) (v := ?_) (a' := ?_) #[true, true, true, true, true, true, true, true, true, true, false, false, false] rfl rfl (any_of HT_.out (by kernel_rfl)) (fun _ _ _ h => h) (Or.inl ⟨by rfl, ?_⟩) ?_ ?_
    rotate_left
    ·intro w'
     go_simp
     with_reducible rfl
    rotate_left
    ·simp only [Act.put, sA_, sB_, sC_, i64_w, i32_w]
     rfl
    refine one_ (i := 10) (N := some 17) #[true, true, true, true, true, true, true, true, true, true, true, false, false] rfl rfl (one_of HT_.out (by kernel_rfl)) (by decide) (fun K hK => ?_)
    refine box_step ?hg (N := 17) ?hd (cs := #[.slice none 0 0, .int .u64 0, .int .u64 0, .int .i64 0, .int .i64 0]) (t := 72) ?hr ?_; (case hd => rfl); (case hg => rfl); (case hr => first | (go_simp; done) | (go_simp; rfl))
    intro gb565 hg w41 hbox hb
    have n0_ := Aside0.mk (Kd.R_below (by (with_reducible repeat (first | apply Kd.R_alloc | apply Kd.R_drewN | apply Kd.R_drew)); exact HO550.out) hb)
    have n1_ := Aside0.mk (Kd.R_below (by (with_reducible repeat (first | apply Kd.R_alloc | apply Kd.R_drewN | apply Kd.R_drew)); exact HO559.out) hb)
    have n2_ := Aside0.mk (blk_below (g := gb544) (o := .cells #[.int .i64 a0_0, .int .i64 a0_1, .int .i64 a0_2, .int .u64 a0_3, .int .u64 a0_4, .int .u64 a0_5] 37 (0, 0)) (by (with_reducible repeat (first | refine blk_drewN ?_ _ | refine blk_drew ?_ | refine blk_alloc ?_ _)); exact BK544.out) hb)
    have n3_ := Aside0.mk (blk_below (g := gb556) (o := .cells #[.slice Ao35 t548.length co35, .int .u64 t551, .int .u64 t552, .int .i64 t553, .int .i64 t554] 72 (0, 0)) (by (with_reducible repeat (first | refine blk_drewN ?_ _ | refine blk_drew ?_ | refine blk_alloc ?_ _)); exact BK556.out) hb)
    have n4_ := Aside0.mk (below_step (by repeat (first | (with_reducible first | exact HB.out | apply below_alloc | apply pw_below_drewN | apply below_drew1 | refine below_set ?_ GE544.out | refine below_set ?_ GE556.out) | exact HB.out)) hb)
    have n5_ := Aside0.mk (hbox)
    have n6_ := Aside0.mk ((by rw [hg]; exact (below_size (by repeat (first | (with_reducible first | exact HB.out | apply below_alloc | apply pw_below_drewN | apply below_drew1 | refine below_set ?_ GE544.out | refine below_set ?_ GE556.out) | exact HB.out))) : w.heap.size ≤ gb565))
    have n7_ := Aside0.mk ((by rw [hg]; exact (below_size (by repeat (first | (with_reducible first | exact HB.out | apply below_alloc | apply pw_below_drewN | apply below_drew1 | refine below_set ?_ GE544.out | refine below_set ?_ GE556.out) | exact HB.out))) : w.heap.size ≤ gb565))
    have n8_ := Aside0.mk ((by rw [hg]; exact Nat.ne_of_lt (blk_lt (g := gb544) (o := .cells #[.int .i64 a0_0, .int .i64 a0_1, .int .i64 a0_2, .int .u64 a0_3, .int .u64 a0_4, .int .u64 a0_5] 37 (0, 0)) (by (with_reducible repeat (first | refine blk_drewN ?_ _ | refine blk_drew ?_ | refine blk_alloc ?_ _)); exact BK544.out)) : gb544 ≠ gb565))
    have n9_ := Aside0.mk ((by rw [hg]; exact Nat.ne_of_gt (blk_lt (g := gb544) (o := .cells #[.int .i64 a0_0, .int .i64 a0_1, .int .i64 a0_2, .int .u64 a0_3, .int .u64 a0_4, .int .u64 a0_5] 37 (0, 0)) (by (with_reducible repeat (first | refine blk_drewN ?_ _ | refine blk_drew ?_ | refine blk_alloc ?_ _)); exact BK544.out)) : gb565 ≠ gb544))
    have n10_ := Aside0.mk ((by rw [hg]; exact Nat.ne_of_lt (blk_lt (g := gb556) (o := .cells #[.slice Ao35 t548.length co35, .int .u64 t551, .int .u64 t552, .int .i64 t553, .int .i64 t554] 72 (0, 0)) (by (with_reducible repeat (first | refine blk_drewN ?_ _ | refine blk_drew ?_ | refine blk_alloc ?_ _)); exact BK556.out)) : gb556 ≠ gb565))
    have n11_ := Aside0.mk ((by rw [hg]; exact Nat.ne_of_gt (blk_lt (g := gb556) (o := .cells #[.slice Ao35 t548.length co35, .int .u64 t551, .int .u64 t552, .int .i64 t553, .int .i64 t554] 72 (0, 0)) (by (with_reducible repeat (first | refine blk_drewN ?_ _ | refine blk_drew ?_ | refine blk_alloc ?_ _)); exact BK556.out)) : gb565 ≠ gb556))
    clear HO550
    clear HO559
    clear BK544
    clear BK556
    clear HB
    have HO550 := n0_
    have HO559 := n1_
    have BK544 := n2_
    have BK556 := n3_
    have HB := n4_
    have BK565 := n5_
    have GW565 := n6_
    have GE565 := n7_
    have NB544_565 := n8_
    have NB565_544 := n9_
    have NB556_565 := n10_
    have NB565_556 := n11_
    clear n0_ n1_ n2_ n3_ n4_ n5_ n6_ n7_ n8_ n9_ n10_ n11_
    clear hb hbox hg
    refine hK.out _ _ trivial (fun hHeld => ?_)
    clear hK K
    refine norm_ (a' := ?_) ?_ ?_
    rotate_left
    ·show Act.put _ (some 17) _ = _
     simp only [Act.put, sA_, sB_, sC_, i64_w, i32_w]
     rfl
    exact norm_ (by simp only [putAll, Act.put, sA_, sB_, sC_]) (hCont (v558, gb565) _ ⟨(by (with_reducible repeat (first | apply Kd.R_alloc | apply Kd.R_drewN | apply Kd.R_drew)); exact Kd.R_mono HO550.out (fun _ hk => hk.2)), (by (with_reducible repeat (first | apply Kd.R_alloc | apply Kd.R_drewN | apply Kd.R_drew)); exact Kd.R_mono HO559.out (fun _ hk => hk.2)), (by (with_reducible repeat (first | refine blk_drewN ?_ _ | refine blk_drew ?_ | refine blk_alloc ?_ _)); exact BK544.out), (by (with_reducible repeat (first | refine blk_drewN ?_ _ | refine blk_drew ?_ | refine blk_alloc ?_ _)); exact BK556.out), (by (with_reducible repeat (first | refine blk_drewN ?_ _ | refine blk_drew ?_ | refine blk_alloc ?_ _)); exact BK565.out), GW565.out, GE565.out, NB544_565.out, NB565_544.out, NB556_565.out, NB565_556.out, (by repeat (first | (with_reducible first | exact HB.out | apply below_alloc | apply pw_below_drewN | apply below_drew1 | refine below_set ?_ GE544.out | refine below_set ?_ GE556.out | refine below_set ?_ GE565.out) | exact HB.out))⟩)
   skip
   refine box_step ?hg (N := 17) ?hd (cs := #[.slice none 0 0, .int .u64 0, .int .u64 0, .int .i64 0, .int .i64 0]) (t := 72) ?hr ?_; (case hd => rfl); (case hg => rfl); (case hr => first | (go_simp; done) | (go_simp; rfl))
   intro gb565 hg w40 hbox hb
   have n0_ := Aside0.mk (Kd.R_below (by (with_reducible repeat (first | apply Kd.R_alloc | apply Kd.R_drewN | apply Kd.R_drew)); exact HO550.out) hb)
   have n1_ := Aside0.mk (blk_below (g := gb544) (o := .cells #[.int .i64 a0_0, .int .i64 a0_1, .int .i64 a0_2, .int .u64 a0_3, .int .u64 a0_4, .int .u64 a0_5] 37 (0, 0)) (by (with_reducible repeat (first | refine blk_drewN ?_ _ | refine blk_drew ?_ | refine blk_alloc ?_ _)); exact BK544.out) hb)
   have n2_ := Aside0.mk (blk_below (g := gb556) (o := .cells #[.slice Ao35 t548.length co35, .int .u64 t551, .int .u64 t552, .int .i64 t553, .int .i64 t554] 72 (0, 0)) (by (with_reducible repeat (first | refine blk_drewN ?_ _ | refine blk_drew ?_ | refine blk_alloc ?_ _)); exact BK556.out) hb)
   have n3_ := Aside0.mk (below_step (by repeat (first | (with_reducible first | exact HB.out | apply below_alloc | apply pw_below_drewN | apply below_drew1 | refine below_set ?_ GE544.out | refine below_set ?_ GE556.out) | exact HB.out)) hb)
   have n4_ := Aside0.mk (hbox)
   have n5_ := Aside0.mk ((by rw [hg]; exact (below_size (by repeat (first | (with_reducible first | exact HB.out | apply below_alloc | apply pw_below_drewN | apply below_drew1 | refine below_set ?_ GE544.out | refine below_set ?_ GE556.out) | exact HB.out))) : w.heap.size ≤ gb565))
   have n6_ := Aside0.mk ((by rw [hg]; exact (below_size (by repeat (first | (with_reducible first | exact HB.out | apply below_alloc | apply pw_below_drewN | apply below_drew1 | refine below_set ?_ GE544.out | refine below_set ?_ GE556.out) | exact HB.out))) : w.heap.size ≤ gb565))
   have n7_ := Aside0.mk ((by rw [hg]; exact Nat.ne_of_lt (blk_lt (g := gb544) (o := .cells #[.int .i64 a0_0, .int .i64 a0_1, .int .i64 a0_2, .int .u64 a0_3, .int .u64 a0_4, .int .u64 a0_5] 37 (0, 0)) (by (with_reducible repeat (first | refine blk_drewN ?_ _ | refine blk_drew ?_ | refine blk_alloc ?_ _)); exact BK544.out)) : gb544 ≠ gb565))
   have n8_ := Aside0.mk ((by rw [hg]; exact Nat.ne_of_gt (blk_lt (g := gb544) (o := .cells #[.int .i64 a0_0, .int .i64 a0_1, .int .i64 a0_2, .int .u64 a0_3, .int .u64 a0_4, .int .u64 a0_5] 37 (0, 0)) (by (with_reducible repeat (first | refine blk_drewN ?_ _ | refine blk_drew ?_ | refine blk_alloc ?_ _)); exact BK544.out)) : gb565 ≠ gb544))
   have n9_ := Aside0.mk ((by rw [hg]; exact Nat.ne_of_lt (blk_lt (g := gb556) (o := .cells #[.slice Ao35 t548.length co35, .int .u64 t551, .int .u64 t552, .int .i64 t553, .int .i64 t554] 72 (0, 0)) (by (with_reducible repeat (first | refine blk_drewN ?_ _ | refine blk_drew ?_ | refine blk_alloc ?_ _)); exact BK556.out)) : gb556 ≠ gb565))
   have n10_ := Aside0.mk ((by rw [hg]; exact Nat.ne_of_gt (blk_lt (g := gb556) (o := .cells #[.slice Ao35 t548.length co35, .int .u64 t551, .int .u64 t552, .int .i64 t553, .int .i64 t554] 72 (0, 0)) (by (with_reducible repeat (first | refine blk_drewN ?_ _ | refine blk_drew ?_ | refine blk_alloc ?_ _)); exact BK556.out)) : gb565 ≠ gb556))
   clear HO550
   clear BK544
   clear BK556
   clear HB
   have HO550 := n0_
   have BK544 := n1_
   have BK556 := n2_
   have HB := n3_
   have BK565 := n4_
   have GW565 := n5_
   have GE565 := n6_
   have NB544_565 := n7_
   have NB565_544 := n8_
   have NB556_565 := n9_
   have NB565_556 := n10_
   clear n0_ n1_ n2_ n3_ n4_ n5_ n6_ n7_ n8_ n9_ n10_
   clear hb hbox hg
   refine hK.out _ _ trivial (fun hHeld => ?_)
   clear hK K
   refine norm_ (a' := ?_) ?_ ?_
   rotate_left
   ·show Act.put _ (some 17) _ = _
    simp only [Act.put, sA_, sB_, sC_, i64_w, i32_w]
    rfl
   refine one_ (i := 6) (N := some 72) #[true, true, true, true, true, true, true, false, false, false, true, false, false] rfl rfl (one_of HT_.out (by kernel_rfl)) (by decide) (fun K hK => ?_)
   refine goes_ Tryd.func40 (by kernel_rfl) rfl #[.int .u64 ji26, .int .u64 ji28] (by rfl) rfl rfl (by (try simp only [List.map_toArray, List.map_cons, List.map_nil]); first | done | (simp only [hji26, hji28]; rfl) | rfl | (simp only [List.length_drop, List.length_take]; rfl)) ?_
   with_reducible refine (impl_Consistency.calls kj21 ji26 ji28 t557 t560 t561 t562 t563 t564 _ ?side1 A29.out).mono ?_
   (case side1 => exact GlobT.below hGT (by repeat (first | (with_reducible first | exact HB.out | apply below_alloc | apply pw_below_drewN | apply below_drew1 | refine below_set ?_ GE544.out | refine below_set ?_ GE556.out | refine below_set ?_ GE565.out) | exact HB.out)))
   rintro e w41 ⟨v558, rfl, ho0, hb⟩
   refine ⟨_, rfl, ?_⟩
   have n0_ := Aside0.mk (Kd.R_elder' (by (with_reducible repeat (first | apply Kd.R_alloc | apply Kd.R_drewN | apply Kd.R_drew)); exact HO550.out) (Kd.R_base ho0) hb)
   have n1_ := Aside0.mk (Kd.R_lower (Kd.R_new' ho0 (Kd.R_lt (by (with_reducible repeat (first | apply Kd.R_alloc | apply Kd.R_drewN | apply Kd.R_drew)); exact HO550.out))) (below_size (by repeat (first | (with_reducible first | exact HB.out | apply below_alloc | apply pw_below_drewN | apply below_drew1 | refine below_set ?_ GE544.out | refine below_set ?_ GE556.out | refine below_set ?_ GE565.out) | exact HB.out))))
   have n2_ := Aside0.mk (blk_below (g := gb544) (o := .cells #[.int .i64 a0_0, .int .i64 a0_1, .int .i64 a0_2, .int .u64 a0_3, .int .u64 a0_4, .int .u64 a0_5] 37 (0, 0)) (by (with_reducible repeat (first | refine blk_drewN ?_ _ | refine blk_drew ?_ | refine blk_alloc ?_ _)); exact BK544.out) hb)
   have n3_ := Aside0.mk (blk_below (g := gb556) (o := .cells #[.slice Ao35 t548.length co35, .int .u64 t551, .int .u64 t552, .int .i64 t553, .int .i64 t554] 72 (0, 0)) (by (with_reducible repeat (first | refine blk_drewN ?_ _ | refine blk_drew ?_ | refine blk_alloc ?_ _)); exact BK556.out) hb)
   have n4_ := Aside0.mk (blk_below (g := gb565) (o := .cells #[.slice none 0 0, .int .u64 0, .int .u64 0, .int .i64 0, .int .i64 0] 72 (0, 0)) (by (with_reducible repeat (first | refine blk_drewN ?_ _ | refine blk_drew ?_ | refine blk_alloc ?_ _)); exact BK565.out) hb)
   have n5_ := Aside0.mk (below_step (by repeat (first | (with_reducible first | exact HB.out | apply below_alloc | apply pw_below_drewN | apply below_drew1 | refine below_set ?_ GE544.out | refine below_set ?_ GE556.out | refine below_set ?_ GE565.out) | exact HB.out)) hb)
   clear HO550
   clear BK544
   clear BK556
   clear BK565
   clear HB
   have HO550 := n0_
   have HO559 := n1_
   have BK544 := n2_
   have BK556 := n3_
   have BK565 := n4_
   have HB := n5_
   clear n0_ n1_ n2_ n3_ n4_ n5_
   (try clear hb)
   (try clear hb2)
   (try clear hk)
   (try clear hi)
   (try clear ho0)
   refine hK.out _ _ trivial (fun hHeld => ?_)
   clear hK K
   refine norm_ (a' := ?_) ?_ ?_
   rotate_left
   ·show Act.put _ (some 72) _ = _
    simp only [Act.put, sA_, sB_, sC_, i64_w, i32_w]
    rfl
   refine pure_ (i := 7) (N := some 65) (v := ?_) (a' := ?_) #[true, true, true, true, true, true, true, true, false, false, true, false, false] rfl rfl (any_of HT_.out (by kernel_rfl)) (fun _ _ _ h => h) (Or.inl ⟨by rfl, ?_⟩) ?_ ?_
   rotate_left
   ·intro w'
    go_simp
    with_reducible rfl
   rotate_left
   ·simp only [Act.put, sA_, sB_, sC_, i64_w, i32_w]
    rfl
   refine pure_ (i := 8) (N := some 73) (v := ?_) (a' := ?_) #[true, true, true, true, true, true, true, true, true, false, true, false, false] rfl rfl (any_of HT_.out (by kernel_rfl)) (fun _ _ _ h => h) (Or.inl ⟨by rfl, ?_⟩) ?_ ?_
   rotate_left
   ·intro w'
    go_simp
    with_reducible rfl
   rotate_left
   ·simp only [Act.put, sA_, sB_, sC_, i64_w, i32_w]
    rfl
   refine pure_ (i := 9) (N := some 74) (v := ?_) (a' := ?_) #[true, true, true, true, true, true, true, true, true, true, true, false, false] rfl rfl (any_of HT_.out (by kernel_rfl)) (fun _ _ _ h => h) (Or.inl ⟨by rfl, ?_⟩) ?_ ?_
   rotate_left
   ·intro w'
    go_simp
    with_reducible rfl
   rotate_left
   ·simp only [Act.put, sA_, sB_, sC_, i64_w, i32_w]
    rfl
   exact norm_ (by simp only [putAll, Act.put, sA_, sB_, sC_]) (hCont (v558, gb565) _ ⟨(by (with_reducible repeat (first | apply Kd.R_alloc | apply Kd.R_drewN | apply Kd.R_drew)); exact Kd.R_mono HO550.out (fun _ hk => hk.2)), (by (with_reducible repeat (first | apply Kd.R_alloc | apply Kd.R_drewN | apply Kd.R_drew)); exact Kd.R_mono HO559.out (fun _ hk => hk.2)), (by (with_reducible repeat (first | refine blk_drewN ?_ _ | refine blk_drew ?_ | refine blk_alloc ?_ _)); exact BK544.out), (by (with_reducible repeat (first | refine blk_drewN ?_ _ | refine blk_drew ?_ | refine blk_alloc ?_ _)); exact BK556.out), (by (with_reducible repeat (first | refine blk_drewN ?_ _ | refine blk_drew ?_ | refine blk_alloc ?_ _)); exact BK565.out), GW565.out, GE565.out, NB544_565.out, NB565_544.out, NB556_565.out, NB565_556.out, (by repeat (first | (with_reducible first | exact HB.out | apply below_alloc | apply pw_below_drewN | apply below_drew1 | refine below_set ?_ GE544.out | refine below_set ?_ GE556.out | refine below_set ?_ GE565.out) | exact HB.out))⟩)
  rintro ⟨v558, gb565⟩ w42 ⟨h0_, h1_, h2_, h3_, h4_, h5_, h6_, h7_, h8_, h9_, h10_, h11_⟩
  have n0_ : Aside0 (Kd.R k70 70 w42 w.heap.size (fun k_ => some k_ ≠ (v558 : Value).ownBlock) (.slice Ao35 t548.length co35) t548) := ⟨h0_⟩
  have n1_ : Aside0 (Kd.R k70 70 w42 w.heap.size (fun k_ => some k_ ≠ (.slice Ao35 t548.length co35 : Value).ownBlock) v558 t557) := ⟨h1_⟩
  have n2_ : Aside0 (w42.heap[gb544]? = some (.cells #[.int .i64 a0_0, .int .i64 a0_1, .int .i64 a0_2, .int .u64 a0_3, .int .u64 a0_4, .int .u64 a0_5] 37 (0, 0))) := ⟨h2_⟩
  have n3_ : Aside0 (w42.heap[gb556]? = some (.cells #[.slice Ao35 t548.length co35, .int .u64 t551, .int .u64 t552, .int .i64 t553, .int .i64 t554] 72 (0, 0))) := ⟨h3_⟩
  have n4_ : Aside0 (w42.heap[gb565]? = some (.cells #[.slice none 0 0, .int .u64 0, .int .u64 0, .int .i64 0, .int .i64 0] 72 (0, 0))) := ⟨h4_⟩
  have n5_ : Aside0 (w.heap.size ≤ gb565) := ⟨h5_⟩
  have n6_ : Aside0 (w.heap.size ≤ gb565) := ⟨h6_⟩
  have n7_ : Aside0 (gb544 ≠ gb565) := ⟨h7_⟩
  have n8_ : Aside0 (gb565 ≠ gb544) := ⟨h8_⟩
  have n9_ : Aside0 (gb556 ≠ gb565) := ⟨h9_⟩
  have n10_ : Aside0 (gb565 ≠ gb556) := ⟨h10_⟩
  have n11_ : Aside0 (Below w.heap.size w w42) := ⟨h11_⟩
  clear HO550
  clear BK544
  clear BK556
  clear HB
  clear h0_ h1_ h2_ h3_ h4_ h5_ h6_ h7_ h8_ h9_ h10_ h11_
  have HO550 := n0_
  have HO559 := n1_
  have BK544 := n2_
  have BK556 := n3_
  have BK565 := n4_
  have GW565 := n5_
  have GE565 := n6_
  have NB544_565 := n7_
  have NB565_544 := n8_
  have NB556_565 := n9_
  have NB565_556 := n10_
  have HB := n11_
  clear n0_ n1_ n2_ n3_ n4_ n5_ n6_ n7_ n8_ n9_ n10_ n11_
  have hHeld := trivial
  obtain ⟨Ao43, co43, eo43⟩ := Kd.R_slice HO559.out
  (first | subst eo43 | (injection eo43 with f1_ f2_ f3_; have f4_ := f1_.symm; have f5_ := f3_.symm; clear f1_ f2_ f3_; subst f4_; subst f5_))
  refine norm_ (a' := ?_) ?_ ?_
  rotate_left
  ·simp only [putAll, Act.put, sA_, sB_, sC_]
   rfl
  refine one_ (i := 11) (N := none) #[true, true, true, true, true, true, true, true, true, true, true, true, false] rfl rfl (one_of HT_.out (by kernel_rfl)) (by decide) (fun K hK => ?_)
  have hs44 : w42.cell? ⟨gb565, 0, none⟩ = some (.slice none 0 0) := (blk_cell BK565.out 0).trans rfl
  have hfs44 := blk_frozen BK565.out 0
  have hns44_0 := NB544_565.out
  have hns44_1 := NB556_565.out
  have hms44_0 := NB565_544.out
  have hms44_1 := NB565_556.out
  have hs45 : w42.cell? ⟨gb565, 1, none⟩ = some (.int .u64 0) := (blk_cell BK565.out 1).trans rfl
  have hfs45 := blk_frozen BK565.out 1
  have hns45_0 := NB544_565.out
  have hns45_1 := NB556_565.out
  have hms45_0 := NB565_544.out
  have hms45_1 := NB565_556.out
  have hs46 : w42.cell? ⟨gb565, 2, none⟩ = some (.int .u64 0) := (blk_cell BK565.out 2).trans rfl
  have hfs46 := blk_frozen BK565.out 2
  have hns46_0 := NB544_565.out
  have hns46_1 := NB556_565.out
  have hms46_0 := NB565_544.out
  have hms46_1 := NB565_556.out
  have hs47 : w42.cell? ⟨gb565, 3, none⟩ = some (.int .i64 0) := (blk_cell BK565.out 3).trans rfl
  have hfs47 := blk_frozen BK565.out 3
  have hns47_0 := NB544_565.out
  have hns47_1 := NB556_565.out
  have hms47_0 := NB565_544.out
  have hms47_1 := NB565_556.out
  have hs48 : w42.cell? ⟨gb565, 4, none⟩ = some (.int .i64 0) := (blk_cell BK565.out 4).trans rfl
  have hfs48 := blk_frozen BK565.out 4
  have hns48_0 := NB544_565.out
  have hns48_1 := NB556_565.out
  have hms48_0 := NB565_544.out
  have hms48_1 := NB565_556.out
  refine skip_ (w1 := ?_) (by rfl) rfl ?_ ?_
  rotate_left
  ·go_simp
   rfl
  refine hK.out _ _ trivial (fun hHeld => ?_)
  clear hK K
  refine pure_ (i := 12) (N := some 18) (v := ?_) (a' := ?_) #[true, true, true, true, true, true, true, true, true, true, true, true, true] rfl rfl (any_of HT_.out (by kernel_rfl)) (fun _ _ _ h => h) (Or.inl ⟨by rfl, ?_⟩) ?_ ?_
  rotate_left
  ·intro w'
   go_simp
   with_reducible rfl
  rotate_left
  ·simp only [Act.put, sA_, sB_, sC_, i64_w, i32_w]
   rfl
  refine done_ (done_of HT_.out (by kernel_rfl)) ?_
  try go_wp2
  have n0_ : Aside0 (Kd.R k70 70 (((((w42.setCell ⟨gb565, 0, none⟩ (.slice Ao43 t557.length co43)).setCell ⟨gb565, 1, none⟩ (.int .u64 t560)).setCell ⟨gb565, 2, none⟩ (.int .u64 t561)).setCell ⟨gb565, 3, none⟩ (.int .i64 t562)).setCell ⟨gb565, 4, none⟩ (.int .i64 t563)) w.heap.size (fun k_ => some k_ ≠ (.slice Ao43 t557.length co43 : Value).ownBlock) (.slice Ao35 t548.length co35) t548) := ⟨by (with_reducible repeat (first | apply Kd.R_alloc | apply Kd.R_drewN | apply Kd.R_drew)); exact Kd.R_mono (Kd.R_far (p := ⟨gb565, 4, none⟩) (Kd.R_far (p := ⟨gb565, 3, none⟩) (Kd.R_far (p := ⟨gb565, 2, none⟩) (Kd.R_far (p := ⟨gb565, 1, none⟩) (Kd.R_far (p := ⟨gb565, 0, none⟩) (Kd.R_types HO550.out BK565.out (by decide)) (fun _ hk => hk.2) (.slice Ao43 t557.length co43)) (fun _ hk => hk.2) (.int .u64 t560)) (fun _ hk => hk.2) (.int .u64 t561)) (fun _ hk => hk.2) (.int .i64 t562)) (fun _ hk => hk.2) (.int .i64 t563)) (fun _ hk => hk.1)⟩
  have n1_ : Aside0 (Kd.R k70 70 (((((w42.setCell ⟨gb565, 0, none⟩ (.slice Ao43 t557.length co43)).setCell ⟨gb565, 1, none⟩ (.int .u64 t560)).setCell ⟨gb565, 2, none⟩ (.int .u64 t561)).setCell ⟨gb565, 3, none⟩ (.int .i64 t562)).setCell ⟨gb565, 4, none⟩ (.int .i64 t563)) w.heap.size (fun k_ => some k_ ≠ (.slice Ao35 t548.length co35 : Value).ownBlock) (.slice Ao43 t557.length co43) t557) := ⟨by (with_reducible repeat (first | apply Kd.R_alloc | apply Kd.R_drewN | apply Kd.R_drew)); exact Kd.R_mono (Kd.R_far (p := ⟨gb565, 4, none⟩) (Kd.R_far (p := ⟨gb565, 3, none⟩) (Kd.R_far (p := ⟨gb565, 2, none⟩) (Kd.R_far (p := ⟨gb565, 1, none⟩) (Kd.R_far (p := ⟨gb565, 0, none⟩) (Kd.R_types HO559.out BK565.out (by decide)) (fun _ hk => hk.2) (.slice Ao43 t557.length co43)) (fun _ hk => hk.2) (.int .u64 t560)) (fun _ hk => hk.2) (.int .u64 t561)) (fun _ hk => hk.2) (.int .i64 t562)) (fun _ hk => hk.2) (.int .i64 t563)) (fun _ hk => hk.1)⟩
  have n2_ : Aside0 ((((((w42.setCell ⟨gb565, 0, none⟩ (.slice Ao43 t557.length co43)).setCell ⟨gb565, 1, none⟩ (.int .u64 t560)).setCell ⟨gb565, 2, none⟩ (.int .u64 t561)).setCell ⟨gb565, 3, none⟩ (.int .i64 t562)).setCell ⟨gb565, 4, none⟩ (.int .i64 t563)).heap[gb544]? = some (.cells #[.int .i64 a0_0, .int .i64 a0_1, .int .i64 a0_2, .int .u64 a0_3, .int .u64 a0_4, .int .u64 a0_5] 37 (0, 0))) := ⟨by (with_reducible repeat (first | refine blk_drewN ?_ _ | refine blk_drew ?_ | refine blk_alloc ?_ _)); refine blk_far ?_ NB544_565.out _; (with_reducible repeat (first | refine blk_drewN ?_ _ | refine blk_drew ?_ | refine blk_alloc ?_ _)); refine blk_far ?_ NB544_565.out _; (with_reducible repeat (first | refine blk_drewN ?_ _ | refine blk_drew ?_ | refine blk_alloc ?_ _)); refine blk_far ?_ NB544_565.out _; (with_reducible repeat (first | refine blk_drewN ?_ _ | refine blk_drew ?_ | refine blk_alloc ?_ _)); refine blk_far ?_ NB544_565.out _; (with_reducible repeat (first | refine blk_drewN ?_ _ | refine blk_drew ?_ | refine blk_alloc ?_ _)); refine blk_far ?_ NB544_565.out _; (with_reducible repeat (first | refine blk_drewN ?_ _ | refine blk_drew ?_ | refine blk_alloc ?_ _)); exact BK544.out⟩
  have n3_ : Aside0 ((((((w42.setCell ⟨gb565, 0, none⟩ (.slice Ao43 t557.length co43)).setCell ⟨gb565, 1, none⟩ (.int .u64 t560)).setCell ⟨gb565, 2, none⟩ (.int .u64 t561)).setCell ⟨gb565, 3, none⟩ (.int .i64 t562)).setCell ⟨gb565, 4, none⟩ (.int .i64 t563)).heap[gb556]? = some (.cells #[.slice Ao35 t548.length co35, .int .u64 t551, .int .u64 t552, .int .i64 t553, .int .i64 t554] 72 (0, 0))) := ⟨by (with_reducible repeat (first | refine blk_drewN ?_ _ | refine blk_drew ?_ | refine blk_alloc ?_ _)); refine blk_far ?_ NB556_565.out _; (with_reducible repeat (first | refine blk_drewN ?_ _ | refine blk_drew ?_ | refine blk_alloc ?_ _)); refine blk_far ?_ NB556_565.out _; (with_reducible repeat (first | refine blk_drewN ?_ _ | refine blk_drew ?_ | refine blk_alloc ?_ _)); refine blk_far ?_ NB556_565.out _; (with_reducible repeat (first | refine blk_drewN ?_ _ | refine blk_drew ?_ | refine blk_alloc ?_ _)); refine blk_far ?_ NB556_565.out _; (with_reducible repeat (first | refine blk_drewN ?_ _ | refine blk_drew ?_ | refine blk_alloc ?_ _)); refine blk_far ?_ NB556_565.out _; (with_reducible repeat (first | refine blk_drewN ?_ _ | refine blk_drew ?_ | refine blk_alloc ?_ _)); exact BK556.out⟩
  have n4_ : Aside0 ((((((w42.setCell ⟨gb565, 0, none⟩ (.slice Ao43 t557.length co43)).setCell ⟨gb565, 1, none⟩ (.int .u64 t560)).setCell ⟨gb565, 2, none⟩ (.int .u64 t561)).setCell ⟨gb565, 3, none⟩ (.int .i64 t562)).setCell ⟨gb565, 4, none⟩ (.int .i64 t563)).heap[gb565]? = some (.cells #[.slice Ao43 t557.length co43, .int .u64 t560, .int .u64 t561, .int .i64 t562, .int .i64 t563] 72 (0, 0))) := ⟨by (with_reducible repeat (first | refine blk_drewN ?_ _ | refine blk_drew ?_ | refine blk_alloc ?_ _)); refine blk_put (cs := #[.slice Ao43 t557.length co43, .int .u64 t560, .int .u64 t561, .int .i64 t562, .int .i64 0]) ?_ 4 _ rfl; (with_reducible repeat (first | refine blk_drewN ?_ _ | refine blk_drew ?_ | refine blk_alloc ?_ _)); refine blk_put (cs := #[.slice Ao43 t557.length co43, .int .u64 t560, .int .u64 t561, .int .i64 0, .int .i64 0]) ?_ 3 _ rfl; (with_reducible repeat (first | refine blk_drewN ?_ _ | refine blk_drew ?_ | refine blk_alloc ?_ _)); refine blk_put (cs := #[.slice Ao43 t557.length co43, .int .u64 t560, .int .u64 0, .int .i64 0, .int .i64 0]) ?_ 2 _ rfl; (with_reducible repeat (first | refine blk_drewN ?_ _ | refine blk_drew ?_ | refine blk_alloc ?_ _)); refine blk_put (cs := #[.slice Ao43 t557.length co43, .int .u64 0, .int .u64 0, .int .i64 0, .int .i64 0]) ?_ 1 _ rfl; (with_reducible repeat (first | refine blk_drewN ?_ _ | refine blk_drew ?_ | refine blk_alloc ?_ _)); refine blk_put (cs := #[.slice none 0 0, .int .u64 0, .int .u64 0, .int .i64 0, .int .i64 0]) ?_ 0 _ rfl; (with_reducible repeat (first | refine blk_drewN ?_ _ | refine blk_drew ?_ | refine blk_alloc ?_ _)); exact BK565.out⟩
  have n5_ : Aside0 (Below w.heap.size w (((((w42.setCell ⟨gb565, 0, none⟩ (.slice Ao43 t557.length co43)).setCell ⟨gb565, 1, none⟩ (.int .u64 t560)).setCell ⟨gb565, 2, none⟩ (.int .u64 t561)).setCell ⟨gb565, 3, none⟩ (.int .i64 t562)).setCell ⟨gb565, 4, none⟩ (.int .i64 t563))) := ⟨by repeat (first | (with_reducible first | exact HB.out | apply below_alloc | apply pw_below_drewN | apply below_drew1 | refine below_set ?_ GE544.out | refine below_set ?_ GE556.out | refine below_set ?_ GE565.out) | exact HB.out)⟩
  (try clear HO550)
  (try clear HO559)
  (try clear BK544)
  (try clear BK556)
  (try clear BK565)
  (try clear HB)
  generalize (((((w42.setCell ⟨gb565, 0, none⟩ (.slice Ao43 t557.length co43)).setCell ⟨gb565, 1, none⟩ (.int .u64 t560)).setCell ⟨gb565, 2, none⟩ (.int .u64 t561)).setCell ⟨gb565, 3, none⟩ (.int .i64 t562)).setCell ⟨gb565, 4, none⟩ (.int .i64 t563)) = w49 at n0_ n1_ n2_ n3_ n4_ n5_ ⊢
  have HO550 := n0_
  have HO559 := n1_
  have BK544 := n2_
  have BK556 := n3_
  have BK565 := n4_
  have HB := n5_
  clear n0_ n1_ n2_ n3_ n4_ n5_
  have n0_ := Aside0.mk (Kd.R_drew HO550.out)
  have n1_ := Aside0.mk (Kd.R_drew HO559.out)
  have n2_ := Aside0.mk (blk_drew BK544.out)
  have n3_ := Aside0.mk (blk_drew BK556.out)
  have n4_ := Aside0.mk (blk_drew BK565.out)
  have n5_ := Aside0.mk (below_drew1 HB.out)
  clear HO550
  clear HO559
  clear BK544
  clear BK556
  clear BK565
  clear HB
  have HO550 := n0_
  have HO559 := n1_
  have BK544 := n2_
  have BK556 := n3_
  have BK565 := n4_
  have HB := n5_
  clear n0_ n1_ n2_ n3_ n4_ n5_
  refine start_ (n := 15) (S := fun w' => w'.cell? ⟨gb556, 0, none⟩ = some (.slice Ao35 t548.length co35) ∧ w'.cell? ⟨gb556, 1, none⟩ = some (.int .u64 t551) ∧ w'.cell? ⟨gb556, 2, none⟩ = some (.int .u64 t552) ∧ w'.cell? ⟨gb556, 3, none⟩ = some (.int .i64 t553) ∧ w'.cell? ⟨gb556, 4, none⟩ = some (.int .i64 t554)) (ds := [11, 14]) #[false, false, false, false, false, false, false, false, false, false, false, false, false, false, false] (by kernel_rfl) rfl rfl ⟨(blk_cell BK556.out 0).trans rfl, (blk_cell BK556.out 1).trans rfl, (blk_cell BK556.out 2).trans rfl, (blk_cell BK556.out 3).trans rfl, (blk_cell BK556.out 4).trans rfl⟩ (fun hHeld => ?_); refine with_tabW laws_FnConsistencyScaled.tab7 laws_FnConsistencyScaled.bits7 (fun HT_ HW_ => ?_)
  generalize w49.drew = w50 at HO550 HO559 BK544 BK556 BK565 HB hHeld ⊢
  refine pure_ (i := 0) (N := some 75) (v := ?_) (a' := ?_) #[true, false, false, false, false, false, false, false, false, false, false, false, false, false, false] rfl rfl (any_of HT_.out (by kernel_rfl)) (fun _ _ _ h => h) (Or.inl ⟨by rfl, ?_⟩) ?_ ?_
  rotate_left
  ·intro w'
   go_simp
   with_reducible rfl
  rotate_left
  ·simp only [Act.put, sA_, sB_, sC_, i64_w, i32_w]
   rfl
  refine pure_ (i := 2) (N := some 77) (v := ?_) (a' := ?_) #[true, false, true, false, false, false, false, false, false, false, false, false, false, false, false] rfl rfl (any_of HT_.out (by kernel_rfl)) (fun _ _ _ h => h) (Or.inl ⟨by rfl, ?_⟩) ?_ ?_
  rotate_left
  ·intro w'
   go_simp
   with_reducible rfl
  rotate_left
  ·simp only [Act.put, sA_, sB_, sC_, i64_w, i32_w]
   rfl
  refine pure_ (i := 4) (N := some 79) (v := ?_) (a' := ?_) #[true, false, true, false, true, false, false, false, false, false, false, false, false, false, false] rfl rfl (any_of HT_.out (by kernel_rfl)) (fun _ _ _ h => h) (Or.inl ⟨by rfl, ?_⟩) ?_ ?_
  rotate_left
  ·intro w'
   go_simp
   with_reducible rfl
  rotate_left
  ·simp only [Act.put, sA_, sB_, sC_, i64_w, i32_w]
   rfl
  refine pure_ (i := 5) (N := some 80) (v := ?_) (a' := ?_) #[true, false, true, false, true, true, false, false, false, false, false, false, false, false, false] rfl rfl (any_of HT_.out (by kernel_rfl)) (fun _ _ _ h => h) (Or.inl ⟨by rfl, ?_⟩) ?_ ?_
  rotate_left
  ·intro w'
   go_simp
   with_reducible rfl
  rotate_left
  ·simp only [Act.put, sA_, sB_, sC_, i64_w, i32_w]
   rfl
  refine pure_ (i := 7) (N := some 82) (v := ?_) (a' := ?_) #[true, false, true, false, true, true, false, true, false, false, false, false, false, false, false] rfl rfl (any_of HT_.out (by kernel_rfl)) (fun _ _ _ h => h) (Or.inl ⟨by rfl, ?_⟩) ?_ ?_
  rotate_left
  ·intro w'
   go_simp
   with_reducible rfl
  rotate_left
  ·simp only [Act.put, sA_, sB_, sC_, i64_w, i32_w]
   rfl
  refine pure_ (i := 8) (N := some 83) (v := ?_) (a' := ?_) #[true, false, true, false, true, true, false, true, true, false, false, false, false, false, false] rfl rfl (any_of HT_.out (by kernel_rfl)) (fun _ _ _ h => h) (Or.inl ⟨by rfl, ?_⟩) ?_ ?_
  rotate_left
  ·intro w'
   go_simp
   with_reducible rfl
  rotate_left
  ·simp only [Act.put, sA_, sB_, sC_, i64_w, i32_w]
   rfl
  refine take_ (i := 1) (N := some 76) (v := ?_) (a' := ?_) #[true, true, true, false, true, true, false, true, true, false, false, false, false, false, false] rfl rfl (take_ofW HT_.out HW_.out (by kernel_rfl)) (fun _ _ _ h => h) (Or.inl ⟨by rfl, ?_⟩) hHeld ?_ ?_
  rotate_left
  ·rintro w' ⟨s0, s1, s2, s3, s4⟩
   go_simp
   with_reducible rfl
  rotate_left
  ·simp only [Act.put, sA_, sB_, sC_, i64_w, i32_w]
   rfl
  refine take_ (i := 6) (N := some 81) (v := ?_) (a' := ?_) #[true, true, true, false, true, true, true, true, true, false, false, false, false, false, false] rfl rfl (take_ofW HT_.out HW_.out (by kernel_rfl)) (fun _ _ _ h => h) (Or.inl ⟨by rfl, ?_⟩) hHeld ?_ ?_
  rotate_left
  ·rintro w' ⟨s0, s1, s2, s3, s4⟩
   go_simp
   with_reducible rfl
  rotate_left
  ·simp only [Act.put, sA_, sB_, sC_, i64_w, i32_w]
   rfl
  refine pure_ (i := 9) (N := some 84) (v := ?_) (a' := ?_) #[true, true, true, false, true, true, true, true, true, true, false, false, false, false, false] rfl rfl (any_of HT_.out (by kernel_rfl)) (fun _ _ _ h => h) (Or.inl ⟨by rfl, ?_⟩) ?_ ?_
  rotate_left
  ·intro w'
   go_simp
   with_reducible rfl
  rotate_left
  ·simp only [Act.put, sA_, sB_, sC_, i64_w, i32_w]
   rfl
  refine one_ (i := 3) (N := some 78) #[true, true, true, true, true, true, true, true, true, true, false, false, false, false, false] rfl rfl (one_of HT_.out (by kernel_rfl)) (by decide) (fun K hK => ?_)
  refine goes_ Tryd.func55 (by kernel_rfl) rfl #[.slice Ao35 t548.length co35, .int .i64 a3] (by rfl) rfl rfl (by (try simp only [List.map_toArray, List.map_cons, List.map_nil]); first | done | rfl | (simp only [List.length_drop, List.length_take]; rfl)) ?_
  with_reducible refine (laws_raised.calls kj21 _ _ t548 a3 t566 _ ?side1 ?side2 A30.out).mono ?_
  (case side1 => repeat (first | exact (Kd.R_reads' HO550.out).2.2 | (with_reducible refine Kd.C_alloc ?_ _) | (with_reducible refine Kd.C_drewN ?_ _) | (with_reducible refine Kd.C_drew ?_)))
  (case side2 => exact (Kd.R_reads' HO550.out).2.1)
  rintro e w51 ⟨v567, rfl, ho0, hb⟩
  refine ⟨_, rfl, ?_⟩
  have n0_ := Aside0.mk (Kd.R_elder' (by (with_reducible repeat (first | apply Kd.R_alloc | apply Kd.R_drewN | apply Kd.R_drew)); exact HO550.out) (Kd.R_base ho0) hb)
  have n1_ := Aside0.mk (Kd.R_elder' (by (with_reducible repeat (first | apply Kd.R_alloc | apply Kd.R_drewN | apply Kd.R_drew)); exact HO559.out) (Kd.R_base ho0) hb)
  have n2_ := Aside0.mk (Kd.R_lower (Kd.R_new' (Kd.R_new' ho0 (Kd.R_lt (by (with_reducible repeat (first | apply Kd.R_alloc | apply Kd.R_drewN | apply Kd.R_drew)); exact HO550.out))) (Kd.R_lt (by (with_reducible repeat (first | apply Kd.R_alloc | apply Kd.R_drewN | apply Kd.R_drew)); exact HO559.out))) (below_size (by repeat (first | (with_reducible first | exact HB.out | apply below_alloc | apply pw_below_drewN | apply below_drew1 | refine below_set ?_ GE544.out | refine below_set ?_ GE556.out | refine below_set ?_ GE565.out) | exact HB.out))))
  have n3_ := Aside0.mk (blk_below (g := gb544) (o := .cells #[.int .i64 a0_0, .int .i64 a0_1, .int .i64 a0_2, .int .u64 a0_3, .int .u64 a0_4, .int .u64 a0_5] 37 (0, 0)) (by (with_reducible repeat (first | refine blk_drewN ?_ _ | refine blk_drew ?_ | refine blk_alloc ?_ _)); exact BK544.out) hb)
  have n4_ := Aside0.mk (blk_below (g := gb556) (o := .cells #[.slice Ao35 t548.length co35, .int .u64 t551, .int .u64 t552, .int .i64 t553, .int .i64 t554] 72 (0, 0)) (by (with_reducible repeat (first | refine blk_drewN ?_ _ | refine blk_drew ?_ | refine blk_alloc ?_ _)); exact BK556.out) hb)
  have n5_ := Aside0.mk (blk_below (g := gb565) (o := .cells #[.slice Ao43 t557.length co43, .int .u64 t560, .int .u64 t561, .int .i64 t562, .int .i64 t563] 72 (0, 0)) (by (with_reducible repeat (first | refine blk_drewN ?_ _ | refine blk_drew ?_ | refine blk_alloc ?_ _)); exact BK565.out) hb)
  have n6_ := Aside0.mk (below_step (by repeat (first | (with_reducible first | exact HB.out | apply below_alloc | apply pw_below_drewN | apply below_drew1 | refine below_set ?_ GE544.out | refine below_set ?_ GE556.out | refine below_set ?_ GE565.out) | exact HB.out)) hb)
  clear HO550
  clear HO559
  clear BK544
  clear BK556
  clear BK565
  clear HB
  have HO550 := n0_
  have HO559 := n1_
  have HO568 := n2_
  have BK544 := n3_
  have BK556 := n4_
  have BK565 := n5_
  have HB := n6_
  clear n0_ n1_ n2_ n3_ n4_ n5_ n6_
  (try clear hb)
  (try clear hb2)
  (try clear hk)
  (try clear hi)
  (try clear ho0)
  obtain ⟨Ao52, co52, eo52⟩ := Kd.R_slice HO568.out
  (first | subst eo52 | (injection eo52 with f1_ f2_ f3_; have f4_ := f1_.symm; have f5_ := f3_.symm; clear f1_ f2_ f3_; subst f4_; subst f5_))
  refine hK.out _ _ ⟨(blk_cell BK556.out 0).trans rfl, (blk_cell BK556.out 1).trans rfl, (blk_cell BK556.out 2).trans rfl, (blk_cell BK556.out 3).trans rfl, (blk_cell BK556.out 4).trans rfl⟩ (fun hHeld => ?_)
  clear hK K
  refine norm_ (a' := ?_) ?_ ?_
  rotate_left
  ·show Act.put _ (some 78) _ = _
   simp only [Act.put, sA_, sB_, sC_, i64_w, i32_w]
   rfl
  refine pure_ (i := 10) (N := some 85) (v := ?_) (a' := ?_) #[true, true, true, true, true, true, true, true, true, true, true, false, false, false, false] rfl rfl (any_of HT_.out (by kernel_rfl)) (fun _ _ _ h => h) (Or.inl ⟨by rfl, ?_⟩) ?_ ?_
  rotate_left
  ·intro w'
   go_simp
   with_reducible rfl
  rotate_left
  ·simp only [Act.put, sA_, sB_, sC_, i64_w, i32_w]
   rfl
  refine last_ (i := 11) (N := none) #[true, true, true, true, true, true, true, true, true, true, true, true, false, false, false] rfl rfl (one_of HT_.out (by kernel_rfl)) (by decide) (fun K hK => ?_)
  have hs53 : w51.cell? ⟨gb556, 0, none⟩ = some (.slice Ao35 t548.length co35) := (blk_cell BK556.out 0).trans rfl
  have hfs53 := blk_frozen BK556.out 0
  have hns53_0 := NB544_556.out
  have hns53_2 := NB565_556.out
  have hms53_0 := NB556_544.out
  have hms53_2 := NB556_565.out
  refine skip_ (w1 := ?_) (by rfl) rfl ?_ ?_
  rotate_left
  ·go_simp
   rfl
  refine hK.out _ _ ?_
  clear hK K
  refine pure_ (i := 12) (N := some 86) (v := ?_) (a' := ?_) #[true, true, true, true, true, true, true, true, true, true, true, true, true, false, false] rfl rfl (any_of HT_.out (by kernel_rfl)) (fun _ _ _ h => h) (Or.inl ⟨by rfl, ?_⟩) ?_ ?_
  rotate_left
  ·intro w'
   go_simp
   with_reducible rfl
  rotate_left
  ·simp only [Act.put, sA_, sB_, sC_, i64_w, i32_w]
   rfl
  refine pure_ (i := 13) (N := some 87) (v := ?_) (a' := ?_) #[true, true, true, true, true, true, true, true, true, true, true, true, true, true, false] rfl rfl (any_of HT_.out (by kernel_rfl)) (fun _ _ _ h => h) (Or.inl ⟨by rfl, ?_⟩) ?_ ?_
  rotate_left
  ·intro w'
   go_simp
   with_reducible rfl
  rotate_left
  ·simp only [Act.put, sA_, sB_, sC_, i64_w, i32_w]
   rfl
  refine last_ (i := 14) (N := none) #[true, true, true, true, true, true, true, true, true, true, true, true, true, true, true] rfl rfl (one_of HT_.out (by kernel_rfl)) (by decide) (fun K hK => ?_)
  have hs54 : w51.cell? ⟨gb556, 1, none⟩ = some (.int .u64 t551) := (blk_cell BK556.out 1).trans rfl
  have hfs54 := blk_frozen BK556.out 1
  have hns54_0 := NB544_556.out
  have hns54_2 := NB565_556.out
  have hms54_0 := NB556_544.out
  have hms54_2 := NB556_565.out
  refine skip_ (w1 := ?_) (by rfl) rfl ?_ ?_
  rotate_left
  ·go_simp
   rfl
  refine hK.out _ _ ?_
  clear hK K
  refine done_ (done_of HT_.out (by kernel_rfl)) ?_
  have hnb55 := NB544_565.out
  have hnc55 := NB565_544.out
  have hcz56_0 : w51.cell? ⟨gb544, 0, none⟩ = some (.int .i64 a0_0) := (blk_cell BK544.out 0).trans rfl
  have hcz56_1 : w51.cell? ⟨gb544, 1, none⟩ = some (.int .i64 a0_1) := (blk_cell BK544.out 1).trans rfl
  have hcz56_2 : w51.cell? ⟨gb544, 2, none⟩ = some (.int .i64 a0_2) := (blk_cell BK544.out 2).trans rfl
  have hcz56_3 : w51.cell? ⟨gb544, 3, none⟩ = some (.int .u64 a0_3) := (blk_cell BK544.out 3).trans rfl
  have hcz56_4 : w51.cell? ⟨gb544, 4, none⟩ = some (.int .u64 a0_4) := (blk_cell BK544.out 4).trans rfl
  have hcz56_5 : w51.cell? ⟨gb544, 5, none⟩ = some (.int .u64 a0_5) := (blk_cell BK544.out 5).trans rfl
  have hfz56_0 := blk_frozen BK544.out 0
  have hfz56_1 := blk_frozen BK544.out 1
  have hfz56_2 := blk_frozen BK544.out 2
  have hfz56_3 := blk_frozen BK544.out 3
  have hfz56_4 := blk_frozen BK544.out 4
  have hfz56_5 := blk_frozen BK544.out 5
  go_upto_region 9 with (first | ((with_reducible refine gate_callee (f := 33) rfl ?_); refine goesL_ (some 95) rfl rfl Tryd.func33 (by kernel_rfl) rfl #[.agg #[.int .i64 a0_0, .int .i64 a0_1, .int .i64 a0_2, .int .u64 a0_3, .int .u64 a0_4, .int .u64 a0_5], .int .u64 a1, .int .u64 a2, .slice A4 l4.length c4, .slice A5 l5.length c5, .slice A6 l6.length c6] rfl (by (try simp only [List.map_toArray, List.map_cons, List.map_nil]); first | done | rfl | (simp only [List.length_drop, List.length_take]; rfl)) ?_; (with_reducible refine (impl_VerifyConsistency.calls kj21 a0_0 a0_1 a0_2 a0_3 a0_4 a0_5 a1 a2 _ _ l4 _ _ l5 _ _ l6 t569 t570 _ ?side7 ?side1 ?side2 ?side3 ?side4 ?side5 ?side6 A31.out).mono ?_); (case side1 => exact Kd.C_below HR4.out (by repeat (first | (with_reducible first | exact HB.out | apply below_alloc | apply pw_below_drewN | apply below_drew1 | refine below_set ?_ GE544.out | refine below_set ?_ GE556.out | refine below_set ?_ GE565.out) | exact HB.out))); (case side2 => exact HC4.out); (case side3 => exact Kd.C_below HR5.out (by repeat (first | (with_reducible first | exact HB.out | apply below_alloc | apply pw_below_drewN | apply below_drew1 | refine below_set ?_ GE544.out | refine below_set ?_ GE556.out | refine below_set ?_ GE565.out) | exact HB.out))); (case side4 => exact HC5.out); (case side5 => exact Kd.C_below HR6.out (by repeat (first | (with_reducible first | exact HB.out | apply below_alloc | apply pw_below_drewN | apply below_drew1 | refine below_set ?_ GE544.out | refine below_set ?_ GE556.out | refine below_set ?_ GE565.out) | exact HB.out))); (case side6 => exact HC6.out); (case side7 => exact GlobT.below hGT (by repeat (first | (with_reducible first | exact HB.out | apply below_alloc | apply pw_below_drewN | apply below_drew1 | refine below_set ?_ GE544.out | refine below_set ?_ GE556.out | refine below_set ?_ GE565.out) | exact HB.out))); rintro e w57 ⟨v571, rfl, ho0, hb⟩; refine ⟨_, rfl, ?_⟩; have n0_ := Aside0.mk (Kd.R_below (by (with_reducible repeat (first | apply Kd.R_alloc | apply Kd.R_drewN | apply Kd.R_drew)); exact (Kd.R_mono (Kd.R_far (p := ⟨gb556, 1, none⟩) (Kd.R_far (p := ⟨gb556, 0, none⟩) (Kd.R_types HO550.out BK556.out (by decide)) (fun _ hk => hk.2) (.slice Ao52 t566.length co52)) (fun _ hk => hk.2) (.int .u64 (IntKind.u64.wrap (t551 + (IntKind.u64.wrap (a3)))))) (fun _ h_ => h_.1))) hb); have n1_ := Aside0.mk (Kd.R_below (by (with_reducible repeat (first | apply Kd.R_alloc | apply Kd.R_drewN | apply Kd.R_drew)); exact (Kd.R_mono (Kd.R_far (p := ⟨gb556, 1, none⟩) (Kd.R_far (p := ⟨gb556, 0, none⟩) (Kd.R_types HO559.out BK556.out (by decide)) (fun _ hk => hk.2) (.slice Ao52 t566.length co52)) (fun _ hk => hk.2) (.int .u64 (IntKind.u64.wrap (t551 + (IntKind.u64.wrap (a3)))))) (fun _ h_ => h_.1))) hb); have n2_ := Aside0.mk (Kd.R_below (by (with_reducible repeat (first | apply Kd.R_alloc | apply Kd.R_drewN | apply Kd.R_drew)); exact (Kd.R_mono (Kd.R_far (p := ⟨gb556, 1, none⟩) (Kd.R_far (p := ⟨gb556, 0, none⟩) (Kd.R_types HO568.out BK556.out (by decide)) (fun _ hk => hk.2) (.slice Ao52 t566.length co52)) (fun _ hk => hk.2) (.int .u64 (IntKind.u64.wrap (t551 + (IntKind.u64.wrap (a3)))))) (fun _ h_ => h_.1))) hb); have n3_ := Aside0.mk (Kd.R_lower ho0 (below_size (by repeat (first | (with_reducible first | exact HB.out | apply below_alloc | apply pw_below_drewN | apply below_drew1 | refine below_set ?_ GE544.out | refine below_set ?_ GE556.out | refine below_set ?_ GE565.out) | exact HB.out)))); have n4_ := Aside0.mk (blk_below (g := gb544) (o := .cells #[.int .i64 a0_0, .int .i64 a0_1, .int .i64 a0_2, .int .u64 a0_3, .int .u64 a0_4, .int .u64 a0_5] 37 (0, 0)) (by (with_reducible repeat (first | refine blk_drewN ?_ _ | refine blk_drew ?_ | refine blk_alloc ?_ _)); refine blk_far ?_ NB544_556.out _; (with_reducible repeat (first | refine blk_drewN ?_ _ | refine blk_drew ?_ | refine blk_alloc ?_ _)); refine blk_far ?_ NB544_556.out _; (with_reducible repeat (first | refine blk_drewN ?_ _ | refine blk_drew ?_ | refine blk_alloc ?_ _)); exact BK544.out) hb); have n5_ := Aside0.mk (blk_below (g := gb556) (o := .cells #[.slice Ao52 t566.length co52, .int .u64 (IntKind.u64.wrap (t551 + (IntKind.u64.wrap (a3)))), .int .u64 t552, .int .i64 t553, .int .i64 t554] 72 (0, 0)) (by (with_reducible repeat (first | refine blk_drewN ?_ _ | refine blk_drew ?_ | refine blk_alloc ?_ _)); refine blk_put (cs := #[.slice Ao52 t566.length co52, .int .u64 t551, .int .u64 t552, .int .i64 t553, .int .i64 t554]) ?_ 1 _ rfl; (with_reducible repeat (first | refine blk_drewN ?_ _ | refine blk_drew ?_ | refine blk_alloc ?_ _)); refine blk_put (cs := #[.slice Ao35 t548.length co35, .int .u64 t551, .int .u64 t552, .int .i64 t553, .int .i64 t554]) ?_ 0 _ rfl; (with_reducible repeat (first | refine blk_drewN ?_ _ | refine blk_drew ?_ | refine blk_alloc ?_ _)); exact BK556.out) hb); have n6_ := Aside0.mk (blk_below (g := gb565) (o := .cells #[.slice Ao43 t557.length co43, .int .u64 t560, .int .u64 t561, .int .i64 t562, .int .i64 t563] 72 (0, 0)) (by (with_reducible repeat (first | refine blk_drewN ?_ _ | refine blk_drew ?_ | refine blk_alloc ?_ _)); refine blk_far ?_ NB565_556.out _; (with_reducible repeat (first | refine blk_drewN ?_ _ | refine blk_drew ?_ | refine blk_alloc ?_ _)); refine blk_far ?_ NB565_556.out _; (with_reducible repeat (first | refine blk_drewN ?_ _ | refine blk_drew ?_ | refine blk_alloc ?_ _)); exact BK565.out) hb); have n7_ := Aside0.mk (below_step (by repeat (first | (with_reducible first | exact HB.out | apply below_alloc | apply pw_below_drewN | apply below_drew1 | refine below_set ?_ GE544.out | refine below_set ?_ GE556.out | refine below_set ?_ GE565.out) | exact HB.out)) hb); clear HO550; clear HO559; clear HO568; clear BK544; clear BK556; clear BK565; clear HB; have HO550 := n0_; have HO559 := n1_; have HO568 := n2_; have HO572 := n3_; have BK544 := n4_; have BK556 := n5_; have BK565 := n6_; have HB := n7_; clear n0_ n1_ n2_ n3_ n4_ n5_ n6_ n7_; (try clear hb); (try clear hb2); (try clear hk); (try clear hi); (try clear ho0)))
  (try simp only [Act.put, sA_, sB_, sC_])
  go_cut [21, 22] (fun v21 v22 wc => ∃ (kq : Nat) (x21_31 : Int) (x22_31 : List Int), v21 = .int .i64 x21_31 ∧ Aside0 (laws_FnConsistencyScaled.j4 kq t555 t564 t569 t570 x21_31 x22_31 t566 (IntKind.u64.wrap (t551 + (IntKind.u64.wrap (a3)))) t552 t553 t554 t557 t560 t561 t562 t563 = some r) ∧ Aside0 (kq ≤ kj21) ∧ Aside0 (Kd.R (Kd.int .u8) 5 wc w.heap.size (fun k_ => some k_ ≠ (v22 : Value).ownBlock) v571 t570) ∧ Aside0 (Kd.R (Kd.int .u8) 5 wc w.heap.size (fun k_ => some k_ ≠ (v571 : Value).ownBlock) v22 x22_31) ∧ Aside0 (Kd.R k70 70 wc w.heap.size (fun k_ => some k_ ≠ ((.slice Ao43 t557.length co43) : Value).ownBlock) (.slice Ao52 t566.length co52) t566) ∧ Aside0 (Kd.R k70 70 wc w.heap.size (fun k_ => some k_ ≠ ((.slice Ao52 t566.length co52) : Value).ownBlock) (.slice Ao43 t557.length co43) t557) ∧ Aside0 (wc.heap[gb544]? = some (.cells #[.int .i64 a0_0, .int .i64 a0_1, .int .i64 a0_2, .int .u64 a0_3, .int .u64 a0_4, .int .u64 a0_5] 37 (0, 0))) ∧ Aside0 (wc.heap[gb556]? = some (.cells #[(.slice Ao52 t566.length co52), .int .u64 (IntKind.u64.wrap (t551 + (IntKind.u64.wrap (a3)))), .int .u64 t552, .int .i64 t553, .int .i64 t554] 72 (0, 0))) ∧ Aside0 (wc.heap[gb565]? = some (.cells #[(.slice Ao43 t557.length co43), .int .u64 t560, .int .u64 t561, .int .i64 t562, .int .i64 t563] 72 (0, 0))) ∧ Aside0 (Below w.heap.size w wc))
  case first =>
   have H := HC32.out
   clear HC32
   have c58b0 := eq_true (of_decide_eq_true (by first | (with_reducible assumption) | assumption) : 0 ≤ a3)
   have c59b0 := eq_true (of_decide_eq_true (by first | (with_reducible assumption) | assumption) : 0 ≤ a3)
   replace H := Option.bind_eq_some_iff.mp H
   obtain ⟨⟨t573, t574⟩, A600, H⟩ := H
   replace H : (laws_FnConsistencyScaled.j4 kj21 t555 t564 t569 t570 t573 t574 t566 (IntKind.u64.wrap (t551 + (IntKind.u64.wrap (a3)))) t552 t553 t554 t557 t560 t561 t562 t563) = some r := H
   have A60 := Aside0.mk A600
   clear A600
   have H' := Aside0.mk H
   clear H
   try go_wp2
   have n0_ := Aside0.mk (Kd.R_drew HO550.out)
   have n1_ := Aside0.mk (Kd.R_drew HO559.out)
   have n2_ := Aside0.mk (Kd.R_drew HO568.out)
   have n3_ := Aside0.mk (Kd.R_drew HO572.out)
   have n4_ := Aside0.mk (blk_drew BK544.out)
   have n5_ := Aside0.mk (blk_drew BK556.out)
   have n6_ := Aside0.mk (blk_drew BK565.out)
   have n7_ := Aside0.mk (below_drew1 HB.out)
   clear HO550
   clear HO559
   clear HO568
   clear HO572
   clear BK544
   clear BK556
   clear BK565
   clear HB
   have HO550 := n0_
   have HO559 := n1_
   have HO568 := n2_
   have HO572 := n3_
   have BK544 := n4_
   have BK556 := n5_
   have BK565 := n6_
   have HB := n7_
   clear n0_ n1_ n2_ n3_ n4_ n5_ n6_ n7_
   refine start_ (n := 16) (S := fun w' => w'.cell? ⟨gb544, 0, none⟩ = some (.int .i64 a0_0) ∧ w'.cell? ⟨gb544, 1, none⟩ = some (.int .i64 a0_1) ∧ w'.cell? ⟨gb544, 2, none⟩ = some (.int .i64 a0_2) ∧ w'.cell? ⟨gb544, 3, none⟩ = some (.int .u64 a0_3) ∧ w'.cell? ⟨gb544, 4, none⟩ = some (.int .u64 a0_4) ∧ w'.cell? ⟨gb544, 5, none⟩ = some (.int .u64 a0_5)) (ds := []) #[false, false, false, false, false, false, false, false, false, false, false, false, false, false, false, false] (by kernel_rfl) rfl rfl ⟨(blk_cell BK544.out 0).trans rfl, (blk_cell BK544.out 1).trans rfl, (blk_cell BK544.out 2).trans rfl, (blk_cell BK544.out 3).trans rfl, (blk_cell BK544.out 4).trans rfl, (blk_cell BK544.out 5).trans rfl⟩ (fun hHeld => ?_); refine with_tabW laws_FnConsistencyScaled.tab9 laws_FnConsistencyScaled.bits9 (fun HT_ HW_ => ?_)
   generalize w57.drew = w61 at HO550 HO559 HO568 HO572 BK544 BK556 BK565 HB hHeld ⊢
   refine pure_ (i := 1) (N := some 100) (v := ?_) (a' := ?_) #[false, true, false, false, false, false, false, false, false, false, false, false, false, false, false, false] rfl rfl (any_of HT_.out (by kernel_rfl)) (fun _ _ _ h => h) (Or.inl ⟨by rfl, ?_⟩) ?_ ?_
   rotate_left
   ·intro w'
    go_simp
    with_reducible rfl
   rotate_left
   ·simp only [Act.put, sA_, sB_, sC_, i64_w, i32_w]
    rfl
   refine pure_ (i := 2) (N := some 101) (v := ?_) (a' := ?_) #[false, true, true, false, false, false, false, false, false, false, false, false, false, false, false, false] rfl rfl (any_of HT_.out (by kernel_rfl)) (fun _ _ _ h => h) (Or.inl ⟨by rfl, ?_⟩) ?_ ?_
   rotate_left
   ·intro w'
    go_simp
    with_reducible rfl
   rotate_left
   ·simp only [Act.put, sA_, sB_, sC_, i64_w, i32_w]
    rfl
   refine pure_ (i := 3) (N := some 102) (v := ?_) (a' := ?_) #[false, true, true, true, false, false, false, false, false, false, false, false, false, false, false, false] rfl rfl (any_of HT_.out (by kernel_rfl)) (fun _ _ _ h => h) (Or.inl ⟨by rfl, ?_⟩) ?_ ?_
   rotate_left
   ·intro w'
    go_simp
    with_reducible rfl
   rotate_left
   ·simp only [Act.put, sA_, sB_, sC_, i64_w, i32_w]
    rfl
   refine pure_ (i := 4) (N := some 103) (v := ?_) (a' := ?_) #[false, true, true, true, true, false, false, false, false, false, false, false, false, false, false, false] rfl rfl (any_of HT_.out (by kernel_rfl)) (fun _ _ _ h => h) (Or.inl ⟨by rfl, ?_⟩) ?_ ?_
   rotate_left
   ·intro w'
    go_simp
    with_reducible rfl
   rotate_left
   ·simp only [Act.put, sA_, sB_, sC_, i64_w, i32_w]
    rfl
   refine pure_ (i := 5) (N := some 104) (v := ?_) (a' := ?_) #[false, true, true, true, true, true, false, false, false, false, false, false, false, false, false, false] rfl rfl (any_of HT_.out (by kernel_rfl)) (fun _ _ _ h => h) (Or.inl ⟨by rfl, ?_⟩) ?_ ?_
   rotate_left
   ·intro w'
    go_simp
    with_reducible rfl
   rotate_left
   ·simp only [Act.put, sA_, sB_, sC_, i64_w, i32_w]
    rfl
   refine pure_ (i := 6) (N := some 105) (v := ?_) (a' := ?_) #[false, true, true, true, true, true, true, false, false, false, false, false, false, false, false, false] rfl rfl (any_of HT_.out (by kernel_rfl)) (fun _ _ _ h => h) (Or.inl ⟨by rfl, ?_⟩) ?_ ?_
   rotate_left
   ·intro w'
    go_simp
    with_reducible rfl
   rotate_left
   ·simp only [Act.put, sA_, sB_, sC_, i64_w, i32_w]
    rfl
   refine pure_ (i := 7) (N := some 106) (v := ?_) (a' := ?_) #[false, true, true, true, true, true, true, true, false, false, false, false, false, false, false, false] rfl rfl (any_of HT_.out (by kernel_rfl)) (fun _ _ _ h => h) (Or.inl ⟨by rfl, ?_⟩) ?_ ?_
   rotate_left
   ·intro w'
    go_simp
    with_reducible rfl
   rotate_left
   ·simp only [Act.put, sA_, sB_, sC_, i64_w, i32_w]
    rfl
   refine pure_ (i := 8) (N := some 107) (v := ?_) (a' := ?_) #[false, true, true, true, true, true, true, true, true, false, false, false, false, false, false, false] rfl rfl (any_of HT_.out (by kernel_rfl)) (fun _ _ _ h => h) (Or.inl ⟨by rfl, ?_⟩) ?_ ?_
   rotate_left
   ·intro w'
    go_simp
    with_reducible rfl
   rotate_left
   ·simp only [Act.put, sA_, sB_, sC_, i64_w, i32_w]
    rfl
   refine pure_ (i := 9) (N := some 108) (v := ?_) (a' := ?_) #[false, true, true, true, true, true, true, true, true, true, false, false, false, false, false, false] rfl rfl (any_of HT_.out (by kernel_rfl)) (fun _ _ _ h => h) (Or.inl ⟨by rfl, ?_⟩) ?_ ?_
   rotate_left
   ·intro w'
    go_simp
    with_reducible rfl
   rotate_left
   ·simp only [Act.put, sA_, sB_, sC_, i64_w, i32_w]
    rfl
   refine take_ (i := 0) (N := some 99) (v := ?_) (a' := ?_) #[true, true, true, true, true, true, true, true, true, true, false, false, false, false, false, false] rfl rfl (take_ofW HT_.out HW_.out (by kernel_rfl)) (fun _ _ _ h => h) (Or.inl ⟨by rfl, ?_⟩) hHeld ?_ ?_
   rotate_left
   ·rintro w' ⟨s0, s1, s2, s3, s4, s5⟩
    go_simp
    with_reducible rfl
   rotate_left
   ·simp only [Act.put, sA_, sB_, sC_, i64_w, i32_w]
    rfl
   refine one_ (i := 10) (N := some 109) #[true, true, true, true, true, true, true, true, true, true, true, false, false, false, false, false] rfl rfl (one_of HT_.out (by kernel_rfl)) (by decide) (fun K hK => ?_)
   refine goes_ Tryd.func33 (by kernel_rfl) rfl #[.agg #[.int .i64 a0_0, .int .i64 a0_1, .int .i64 a0_2, .int .u64 a0_3, .int .u64 a0_4, .int .u64 a0_5], .int .u64 ji26, .int .u64 ji28, .slice A4 l4.length c4, .slice A5 l5.length c5, .slice A6 l6.length c6] (by rfl) rfl rfl (by (try simp only [List.map_toArray, List.map_cons, List.map_nil]); first | done | (simp only [hji26, hji28]; rfl) | rfl | (simp only [List.length_drop, List.length_take]; rfl)) ?_
   with_reducible refine (impl_VerifyConsistency.calls kj21 a0_0 a0_1 a0_2 a0_3 a0_4 a0_5 ji26 ji28 _ _ l4 _ _ l5 _ _ l6 t573 t574 _ ?side7 ?side1 ?side2 ?side3 ?side4 ?side5 ?side6 A60.out).mono ?_
   (case side1 => repeat (first | exact (Kd.C_below HR4.out HB.out) | (with_reducible refine Kd.C_alloc ?_ _) | (with_reducible refine Kd.C_drewN ?_ _) | (with_reducible refine Kd.C_drew ?_)))
   (case side2 => exact HC4.out)
   (case side3 => repeat (first | exact (Kd.C_below HR5.out HB.out) | (with_reducible refine Kd.C_alloc ?_ _) | (with_reducible refine Kd.C_drewN ?_ _) | (with_reducible refine Kd.C_drew ?_)))
   (case side4 => exact HC5.out)
   (case side5 => repeat (first | exact (Kd.C_below HR6.out HB.out) | (with_reducible refine Kd.C_alloc ?_ _) | (with_reducible refine Kd.C_drewN ?_ _) | (with_reducible refine Kd.C_drew ?_)))
   (case side6 => exact HC6.out)
   (case side7 => exact GlobT.below hGT (by repeat (first | (with_reducible first | exact HB.out | apply below_alloc | apply pw_below_drewN | apply below_drew1 | refine below_set ?_ GE544.out | refine below_set ?_ GE556.out | refine below_set ?_ GE565.out) | exact HB.out)))
   rintro e w62 ⟨v575, rfl, ho0, hb⟩
   refine ⟨_, rfl, ?_⟩
   have n0_ := Aside0.mk (Kd.R_below (by (with_reducible repeat (first | apply Kd.R_alloc | apply Kd.R_drewN | apply Kd.R_drew)); exact HO550.out) hb)
   have n1_ := Aside0.mk (Kd.R_below (by (with_reducible repeat (first | apply Kd.R_alloc | apply Kd.R_drewN | apply Kd.R_drew)); exact HO559.out) hb)
   have n2_ := Aside0.mk (Kd.R_below (by (with_reducible repeat (first | apply Kd.R_alloc | apply Kd.R_drewN | apply Kd.R_drew)); exact HO568.out) hb)
   have n3_ := Aside0.mk (Kd.R_elder' (by (with_reducible repeat (first | apply Kd.R_alloc | apply Kd.R_drewN | apply Kd.R_drew)); exact HO572.out) (Kd.R_base ho0) hb)
   have n4_ := Aside0.mk (Kd.R_lower (Kd.R_new' ho0 (Kd.R_lt (by (with_reducible repeat (first | apply Kd.R_alloc | apply Kd.R_drewN | apply Kd.R_drew)); exact HO572.out))) (below_size (by repeat (first | (with_reducible first | exact HB.out | apply below_alloc | apply pw_below_drewN | apply below_drew1 | refine below_set ?_ GE544.out | refine below_set ?_ GE556.out | refine below_set ?_ GE565.out) | exact HB.out))))
   have n5_ := Aside0.mk (blk_below (g := gb544) (o := .cells #[.int .i64 a0_0, .int .i64 a0_1, .int .i64 a0_2, .int .u64 a0_3, .int .u64 a0_4, .int .u64 a0_5] 37 (0, 0)) (by (with_reducible repeat (first | refine blk_drewN ?_ _ | refine blk_drew ?_ | refine blk_alloc ?_ _)); exact BK544.out) hb)
   have n6_ := Aside0.mk (blk_below (g := gb556) (o := .cells #[.slice Ao52 t566.length co52, .int .u64 (IntKind.u64.wrap (t551 + (IntKind.u64.wrap (a3)))), .int .u64 t552, .int .i64 t553, .int .i64 t554] 72 (0, 0)) (by (with_reducible repeat (first | refine blk_drewN ?_ _ | refine blk_drew ?_ | refine blk_alloc ?_ _)); exact BK556.out) hb)
   have n7_ := Aside0.mk (blk_below (g := gb565) (o := .cells #[.slice Ao43 t557.length co43, .int .u64 t560, .int .u64 t561, .int .i64 t562, .int .i64 t563] 72 (0, 0)) (by (with_reducible repeat (first | refine blk_drewN ?_ _ | refine blk_drew ?_ | refine blk_alloc ?_ _)); exact BK565.out) hb)
   have n8_ := Aside0.mk (below_step (by repeat (first | (with_reducible first | exact HB.out | apply below_alloc | apply pw_below_drewN | apply below_drew1 | refine below_set ?_ GE544.out | refine below_set ?_ GE556.out | refine below_set ?_ GE565.out) | exact HB.out)) hb)
   clear HO550
   clear HO559
   clear HO568
   clear HO572
   clear BK544
   clear BK556
   clear BK565
   clear HB
   have HO550 := n0_
   have HO559 := n1_
   have HO568 := n2_
   have HO572 := n3_
   have HO576 := n4_
   have BK544 := n5_
   have BK556 := n6_
   have BK565 := n7_
   have HB := n8_
   clear n0_ n1_ n2_ n3_ n4_ n5_ n6_ n7_ n8_
   (try clear hb)
   (try clear hb2)
   (try clear hk)
   (try clear hi)
   (try clear ho0)
   refine hK.out _ _ ⟨(blk_cell BK544.out 0).trans rfl, (blk_cell BK544.out 1).trans rfl, (blk_cell BK544.out 2).trans rfl, (blk_cell BK544.out 3).trans rfl, (blk_cell BK544.out 4).trans rfl, (blk_cell BK544.out 5).trans rfl⟩ (fun hHeld => ?_)
   clear hK K
   refine norm_ (a' := ?_) ?_ ?_
   rotate_left
   ·show Act.put _ (some 109) _ = _
    simp only [Act.put, sA_, sB_, sC_, i64_w, i32_w]
    rfl
   refine pure_ (i := 11) (N := some 98) (v := ?_) (a' := ?_) #[true, true, true, true, true, true, true, true, true, true, true, true, false, false, false, false] rfl rfl (any_of HT_.out (by kernel_rfl)) (fun _ _ _ h => h) (Or.inl ⟨by rfl, ?_⟩) ?_ ?_
   rotate_left
   ·intro w'
    go_simp
    with_reducible rfl
   rotate_left
   ·simp only [Act.put, sA_, sB_, sC_, i64_w, i32_w]
    rfl
   refine pure_ (i := 12) (N := some 110) (v := ?_) (a' := ?_) #[true, true, true, true, true, true, true, true, true, true, true, true, true, false, false, false] rfl rfl (any_of HT_.out (by kernel_rfl)) (fun _ _ _ h => h) (Or.inl ⟨by rfl, ?_⟩) ?_ ?_
   rotate_left
   ·intro w'
    go_simp
    with_reducible rfl
   rotate_left
   ·simp only [Act.put, sA_, sB_, sC_, i64_w, i32_w]
    rfl
   refine pure_ (i := 13) (N := some 111) (v := ?_) (a' := ?_) #[true, true, true, true, true, true, true, true, true, true, true, true, true, true, false, false] rfl rfl (any_of HT_.out (by kernel_rfl)) (fun _ _ _ h => h) (Or.inl ⟨by rfl, ?_⟩) ?_ ?_
   rotate_left
   ·intro w'
    go_simp
    with_reducible rfl
   rotate_left
   ·simp only [Act.put, sA_, sB_, sC_, i64_w, i32_w]
    rfl
   refine pure_ (i := 14) (N := some 21) (v := ?_) (a' := ?_) #[true, true, true, true, true, true, true, true, true, true, true, true, true, true, true, false] rfl rfl (any_of HT_.out (by kernel_rfl)) (fun _ _ _ h => h) (Or.inl ⟨by rfl, ?_⟩) ?_ ?_
   rotate_left
   ·intro w'
    go_simp
    with_reducible rfl
   rotate_left
   ·simp only [Act.put, sA_, sB_, sC_, i64_w, i32_w]
    rfl
   refine pure_ (i := 15) (N := some 22) (v := ?_) (a' := ?_) #[true, true, true, true, true, true, true, true, true, true, true, true, true, true, true, true] rfl rfl (any_of HT_.out (by kernel_rfl)) (fun _ _ _ h => h) (Or.inl ⟨by rfl, ?_⟩) ?_ ?_
   rotate_left
   ·intro w'
    go_simp
    with_reducible rfl
   rotate_left
   ·simp only [Act.put, sA_, sB_, sC_, i64_w, i32_w]
    rfl
   refine done_ (done_of HT_.out (by kernel_rfl)) ?_
   try go_wp2
   go_meet
   case rel => exact ⟨_, (t573), (t574), (by first | rfl | (simp; done) | (simp [*]; done)), H', ⟨by have := HJ7.out; have := HJ12.out; have := HJ14.out; have := HJ21.out; first | omega | exact Nat.le_refl _⟩, ⟨by (with_reducible repeat (first | apply Kd.R_alloc | apply Kd.R_drewN | apply Kd.R_drew)); exact Kd.R_mono HO572.out (fun _ hk => hk.2)⟩, ⟨by (with_reducible repeat (first | apply Kd.R_alloc | apply Kd.R_drewN | apply Kd.R_drew)); exact Kd.R_mono HO576.out (fun _ hk => hk.2)⟩, ⟨by (with_reducible repeat (first | apply Kd.R_alloc | apply Kd.R_drewN | apply Kd.R_drew)); exact Kd.R_mono HO568.out (fun _ hk => hk.2)⟩, ⟨by (with_reducible repeat (first | apply Kd.R_alloc | apply Kd.R_drewN | apply Kd.R_drew)); exact Kd.R_mono HO559.out (fun _ hk => hk.2)⟩, ⟨by (with_reducible repeat (first | refine blk_drewN ?_ _ | refine blk_drew ?_ | refine blk_alloc ?_ _)); exact BK544.out⟩, ⟨by (with_reducible repeat (first | refine blk_drewN ?_ _ | refine blk_drew ?_ | refine blk_alloc ?_ _)); exact BK556.out⟩, ⟨by (with_reducible repeat (first | refine blk_drewN ?_ _ | refine blk_drew ?_ | refine blk_alloc ?_ _)); exact BK565.out⟩, ⟨by repeat (first | (with_reducible first | exact HB.out | apply below_alloc | apply pw_below_drewN | apply below_drew1 | refine below_set ?_ GE544.out | refine below_set ?_ GE556.out | refine below_set ?_ GE565.out) | exact HB.out)⟩⟩
  clear HC32
  try clear p2
  try clear c3
  try clear c4
  try clear c5
  try clear c6
  try clear c33
  try clear c40
  try clear c55
  try clear c58
  try clear c58b0
  try clear c59
  try clear c59b0
  try clear hcz56_0
  try clear hcz56_1
  try clear hcz56_2
  try clear hcz56_3
  try clear hcz56_4
  try clear hcz56_5
  try clear hfz56_0
  try clear hfz56_1
  try clear hfz56_2
  try clear hfz56_3
  try clear hfz56_4
  try clear hfz56_5
  obtain ⟨kq, x21_31, x22_31, rfl, HA, HJ31, HO_20, HO_22, HO_557000, HO_566000, BK544, BK556, BK565, HB⟩ := hcut
  obtain _ | kj31 := kq
  ·exact absurd HA.out (by simp [laws_FnConsistencyScaled.j4])
  have H := HA.out
  clear HA
  simp only [laws_FnConsistencyScaled.j4] at H
  by_cases c63 : t555 = true
  ·subst c63
   have H1 : (if t564 = true then ((spec_SameProof.f kj31 t566 (IntKind.u64.wrap (t551 + (IntKind.u64.wrap (a3)))) t552 t553 t554 t557 t560 t561 t562 t563).bind fun t577 => (if t577 = true then (if t569 = x21_31 then ((spec_SameText.f t570 x22_31).bind fun t578 => (some t578)) else (some false)) else (some false))) else (some false)) = some r := by rw [if_pos rfl] at H; exact H
   clear H
   have H := H1
   clear H1
   by_cases c64 : t564 = true
   ·subst c64
    have H1 : ((spec_SameProof.f kj31 t566 (IntKind.u64.wrap (t551 + (IntKind.u64.wrap (a3)))) t552 t553 t554 t557 t560 t561 t562 t563).bind fun t577 => (if t577 = true then (if t569 = x21_31 then ((spec_SameText.f t570 x22_31).bind fun t578 => (some t578)) else (some false)) else (some false))) = some r := by rw [if_pos rfl] at H; exact H
    clear H
    have H := H1
    clear H1
    replace H := Option.bind_eq_some_iff.mp H
    obtain ⟨t577, A650, H⟩ := H
    replace H : (if t577 = true then (if t569 = x21_31 then ((spec_SameText.f t570 x22_31).bind fun t578 => (some t578)) else (some false)) else (some false)) = some r := H
    have A65 := Aside0.mk A650
    clear A650
    by_cases c66 : t577 = true
    ·subst c66
     have H1 : (if t569 = x21_31 then ((spec_SameText.f t570 x22_31).bind fun t578 => (some t578)) else (some false)) = some r := by rw [if_pos rfl] at H; exact H
     clear H
     have H := H1
     clear H1
     by_cases c67 : t569 = x21_31
     ·rw [if_pos c67] at H
      have c67b0 : (t569 == x21_31) = true := beq_iff_eq.mpr c67
      have c67b1 : (t569 != x21_31) = false := bne_eq_false_iff_eq.mpr c67
      clear c67
      replace H := Option.bind_eq_some_iff.mp H
      obtain ⟨t578, A680, H⟩ := H
      replace H : (some t578) = some r := H
      have A68 := Aside0.mk A680
      clear A680
      obtain rfl := Option.some.inj H
      have hnb69 := NB556_544.out
      have hnc69 := NB544_556.out
      have hnb70 := NB556_565.out
      have hnc70 := NB565_556.out
      have hcz71_0 : wc.cell? ⟨gb556, 0, none⟩ = some (.slice Ao52 t566.length co52) := (blk_cell BK556.out 0).trans rfl
      have hcz71_1 : wc.cell? ⟨gb556, 1, none⟩ = some (.int .u64 (IntKind.u64.wrap (t551 + (IntKind.u64.wrap (a3))))) := (blk_cell BK556.out 1).trans rfl
      have hcz71_2 : wc.cell? ⟨gb556, 2, none⟩ = some (.int .u64 t552) := (blk_cell BK556.out 2).trans rfl
      have hcz71_3 : wc.cell? ⟨gb556, 3, none⟩ = some (.int .i64 t553) := (blk_cell BK556.out 3).trans rfl
      have hcz71_4 : wc.cell? ⟨gb556, 4, none⟩ = some (.int .i64 t554) := (blk_cell BK556.out 4).trans rfl
      have hfz71_0 := blk_frozen BK556.out 0
      have hfz71_1 := blk_frozen BK556.out 1
      have hfz71_2 := blk_frozen BK556.out 2
      have hfz71_3 := blk_frozen BK556.out 3
      have hfz71_4 := blk_frozen BK556.out 4
      have hnb72 := NB565_544.out
      have hnc72 := NB544_565.out
      have hcz73_0 : wc.cell? ⟨gb565, 0, none⟩ = some (.slice Ao43 t557.length co43) := (blk_cell BK565.out 0).trans rfl
      have hcz73_1 : wc.cell? ⟨gb565, 1, none⟩ = some (.int .u64 t560) := (blk_cell BK565.out 1).trans rfl
      have hcz73_2 : wc.cell? ⟨gb565, 2, none⟩ = some (.int .u64 t561) := (blk_cell BK565.out 2).trans rfl
      have hcz73_3 : wc.cell? ⟨gb565, 3, none⟩ = some (.int .i64 t562) := (blk_cell BK565.out 3).trans rfl
      have hcz73_4 : wc.cell? ⟨gb565, 4, none⟩ = some (.int .i64 t563) := (blk_cell BK565.out 4).trans rfl
      have hfz73_0 := blk_frozen BK565.out 0
      have hfz73_1 := blk_frozen BK565.out 1
      have hfz73_2 := blk_frozen BK565.out 2
      have hfz73_3 := blk_frozen BK565.out 3
      have hfz73_4 := blk_frozen BK565.out 4
      go_wp2_with (first | (go_at_call 56; (with_reducible refine (spec_SameProof.calls kj31 _ _ t566 (IntKind.u64.wrap (t551 + (IntKind.u64.wrap (a3)))) t552 t553 t554 _ _ t557 t560 t561 t562 t563 true _ ?side1 ?side2 ?side3 ?side4 A65.out).mono ?_); (case side1 => repeat (first | exact (Kd.R_reads' HO_557000.out).2.2 | (with_reducible refine Kd.C_alloc ?_ _) | (with_reducible refine Kd.C_drewN ?_ _) | (with_reducible refine Kd.C_drew ?_))); (case side2 => exact (Kd.R_reads' HO_557000.out).2.1); (case side3 => repeat (first | exact (Kd.R_reads' HO_566000.out).2.2 | (with_reducible refine Kd.C_alloc ?_ _) | (with_reducible refine Kd.C_drewN ?_ _) | (with_reducible refine Kd.C_drew ?_))); (case side4 => exact (Kd.R_reads' HO_566000.out).2.1); rintro e w74 ⟨rfl, hb⟩; have n0_ := Aside0.mk (Kd.R_below (by (with_reducible repeat (first | apply Kd.R_alloc | apply Kd.R_drewN | apply Kd.R_drew)); exact HO_20.out) hb); have n1_ := Aside0.mk (Kd.R_below (by (with_reducible repeat (first | apply Kd.R_alloc | apply Kd.R_drewN | apply Kd.R_drew)); exact HO_22.out) hb); have n2_ := Aside0.mk (Kd.R_below (by (with_reducible repeat (first | apply Kd.R_alloc | apply Kd.R_drewN | apply Kd.R_drew)); exact HO_557000.out) hb); have n3_ := Aside0.mk (Kd.R_below (by (with_reducible repeat (first | apply Kd.R_alloc | apply Kd.R_drewN | apply Kd.R_drew)); exact HO_566000.out) hb); have n4_ := Aside0.mk (blk_below (g := gb544) (o := .cells #[.int .i64 a0_0, .int .i64 a0_1, .int .i64 a0_2, .int .u64 a0_3, .int .u64 a0_4, .int .u64 a0_5] 37 (0, 0)) (by (with_reducible repeat (first | refine blk_drewN ?_ _ | refine blk_drew ?_ | refine blk_alloc ?_ _)); exact BK544.out) hb); have n5_ := Aside0.mk (blk_below (g := gb556) (o := .cells #[.slice Ao52 t566.length co52, .int .u64 (IntKind.u64.wrap (t551 + (IntKind.u64.wrap (a3)))), .int .u64 t552, .int .i64 t553, .int .i64 t554] 72 (0, 0)) (by (with_reducible repeat (first | refine blk_drewN ?_ _ | refine blk_drew ?_ | refine blk_alloc ?_ _)); exact BK556.out) hb); have n6_ := Aside0.mk (blk_below (g := gb565) (o := .cells #[.slice Ao43 t557.length co43, .int .u64 t560, .int .u64 t561, .int .i64 t562, .int .i64 t563] 72 (0, 0)) (by (with_reducible repeat (first | refine blk_drewN ?_ _ | refine blk_drew ?_ | refine blk_alloc ?_ _)); exact BK565.out) hb); have n7_ := Aside0.mk (below_step (by repeat (first | (with_reducible first | exact HB.out | apply below_alloc | apply pw_below_drewN | apply below_drew1 | refine below_set ?_ GE544.out | refine below_set ?_ GE556.out | refine below_set ?_ GE565.out) | exact HB.out)) hb); clear HO_20; clear HO_22; clear HO_557000; clear HO_566000; clear BK544; clear BK556; clear BK565; clear HB; have HO_20 := n0_; have HO_22 := n1_; have HO_557000 := n2_; have HO_566000 := n3_; have BK544 := n4_; have BK556 := n5_; have BK565 := n6_; have HB := n7_; clear n0_ n1_ n2_ n3_ n4_ n5_ n6_ n7_; (try clear hb); (try clear hb2); (try clear hk); (try clear hi); obtain ⟨Ao75, co75, eo75⟩ := Kd.R_slice HO_20.out; subst eo75; obtain ⟨Ao76, co76, eo76⟩ := Kd.R_slice HO_22.out; subst eo76) | (go_at_call 25; (with_reducible refine (spec_SameText.calls _ _ t570 _ _ x22_31 t578 _ ?side1 ?side2 ?side3 ?side4 A68.out).mono ?_); (case side1 => repeat (first | exact (Kd.R_reads' HO_20.out).2.2 | (with_reducible refine Kd.C_alloc ?_ _) | (with_reducible refine Kd.C_drewN ?_ _) | (with_reducible refine Kd.C_drew ?_))); (case side2 => exact (Kd.R_reads' HO_20.out).2.1); (case side3 => repeat (first | exact (Kd.R_reads' HO_22.out).2.2 | (with_reducible refine Kd.C_alloc ?_ _) | (with_reducible refine Kd.C_drewN ?_ _) | (with_reducible refine Kd.C_drew ?_))); (case side4 => exact (Kd.R_reads' HO_22.out).2.1); rintro e w' ⟨rfl, ⟨nd, rfl⟩⟩))
      go_ret
      exact ⟨by first | rfl | (simp [errW_none, errW_some] <;> rfl) | (simp only [← hji26, ← hji28]; first | rfl | (simp [errW_none, errW_some] <;> rfl)) | (simp [*, errW_none, errW_some] <;> rfl), by repeat (first | (with_reducible first | exact HB.out | apply below_alloc | apply pw_below_drewN | apply below_drew1 | refine below_set ?_ GE544.out | refine below_set ?_ GE556.out | refine below_set ?_ GE565.out) | exact HB.out)⟩
     rw [if_neg c67] at H
     have c67b0 : (t569 == x21_31) = false := beq_eq_false_iff_ne.mpr c67
     have c67b1 : (t569 != x21_31) = true := bne_iff_ne.mpr c67
     obtain rfl := Option.some.inj H
     have hnb77 := NB556_544.out
     have hnc77 := NB544_556.out
     have hnb78 := NB556_565.out
     have hnc78 := NB565_556.out
     have hcz79_0 : wc.cell? ⟨gb556, 0, none⟩ = some (.slice Ao52 t566.length co52) := (blk_cell BK556.out 0).trans rfl
     have hcz79_1 : wc.cell? ⟨gb556, 1, none⟩ = some (.int .u64 (IntKind.u64.wrap (t551 + (IntKind.u64.wrap (a3))))) := (blk_cell BK556.out 1).trans rfl
     have hcz79_2 : wc.cell? ⟨gb556, 2, none⟩ = some (.int .u64 t552) := (blk_cell BK556.out 2).trans rfl
     have hcz79_3 : wc.cell? ⟨gb556, 3, none⟩ = some (.int .i64 t553) := (blk_cell BK556.out 3).trans rfl
     have hcz79_4 : wc.cell? ⟨gb556, 4, none⟩ = some (.int .i64 t554) := (blk_cell BK556.out 4).trans rfl
     have hfz79_0 := blk_frozen BK556.out 0
     have hfz79_1 := blk_frozen BK556.out 1
     have hfz79_2 := blk_frozen BK556.out 2
     have hfz79_3 := blk_frozen BK556.out 3
     have hfz79_4 := blk_frozen BK556.out 4
     have hnb80 := NB565_544.out
     have hnc80 := NB544_565.out
     have hcz81_0 : wc.cell? ⟨gb565, 0, none⟩ = some (.slice Ao43 t557.length co43) := (blk_cell BK565.out 0).trans rfl
     have hcz81_1 : wc.cell? ⟨gb565, 1, none⟩ = some (.int .u64 t560) := (blk_cell BK565.out 1).trans rfl
     have hcz81_2 : wc.cell? ⟨gb565, 2, none⟩ = some (.int .u64 t561) := (blk_cell BK565.out 2).trans rfl
     have hcz81_3 : wc.cell? ⟨gb565, 3, none⟩ = some (.int .i64 t562) := (blk_cell BK565.out 3).trans rfl
     have hcz81_4 : wc.cell? ⟨gb565, 4, none⟩ = some (.int .i64 t563) := (blk_cell BK565.out 4).trans rfl
     have hfz81_0 := blk_frozen BK565.out 0
     have hfz81_1 := blk_frozen BK565.out 1
     have hfz81_2 := blk_frozen BK565.out 2
     have hfz81_3 := blk_frozen BK565.out 3
     have hfz81_4 := blk_frozen BK565.out 4
     go_wp2_with (first | (go_at_call 56; (with_reducible refine (spec_SameProof.calls kj31 _ _ t566 (IntKind.u64.wrap (t551 + (IntKind.u64.wrap (a3)))) t552 t553 t554 _ _ t557 t560 t561 t562 t563 true _ ?side1 ?side2 ?side3 ?side4 A65.out).mono ?_); (case side1 => repeat (first | exact (Kd.R_reads' HO_557000.out).2.2 | (with_reducible refine Kd.C_alloc ?_ _) | (with_reducible refine Kd.C_drewN ?_ _) | (with_reducible refine Kd.C_drew ?_))); (case side2 => exact (Kd.R_reads' HO_557000.out).2.1); (case side3 => repeat (first | exact (Kd.R_reads' HO_566000.out).2.2 | (with_reducible refine Kd.C_alloc ?_ _) | (with_reducible refine Kd.C_drewN ?_ _) | (with_reducible refine Kd.C_drew ?_))); (case side4 => exact (Kd.R_reads' HO_566000.out).2.1); rintro e w82 ⟨rfl, hb⟩; have n0_ := Aside0.mk (Kd.R_below (by (with_reducible repeat (first | apply Kd.R_alloc | apply Kd.R_drewN | apply Kd.R_drew)); exact HO_20.out) hb); have n1_ := Aside0.mk (Kd.R_below (by (with_reducible repeat (first | apply Kd.R_alloc | apply Kd.R_drewN | apply Kd.R_drew)); exact HO_22.out) hb); have n2_ := Aside0.mk (Kd.R_below (by (with_reducible repeat (first | apply Kd.R_alloc | apply Kd.R_drewN | apply Kd.R_drew)); exact HO_557000.out) hb); have n3_ := Aside0.mk (Kd.R_below (by (with_reducible repeat (first | apply Kd.R_alloc | apply Kd.R_drewN | apply Kd.R_drew)); exact HO_566000.out) hb); have n4_ := Aside0.mk (blk_below (g := gb544) (o := .cells #[.int .i64 a0_0, .int .i64 a0_1, .int .i64 a0_2, .int .u64 a0_3, .int .u64 a0_4, .int .u64 a0_5] 37 (0, 0)) (by (with_reducible repeat (first | refine blk_drewN ?_ _ | refine blk_drew ?_ | refine blk_alloc ?_ _)); exact BK544.out) hb); have n5_ := Aside0.mk (blk_below (g := gb556) (o := .cells #[.slice Ao52 t566.length co52, .int .u64 (IntKind.u64.wrap (t551 + (IntKind.u64.wrap (a3)))), .int .u64 t552, .int .i64 t553, .int .i64 t554] 72 (0, 0)) (by (with_reducible repeat (first | refine blk_drewN ?_ _ | refine blk_drew ?_ | refine blk_alloc ?_ _)); exact BK556.out) hb); have n6_ := Aside0.mk (blk_below (g := gb565) (o := .cells #[.slice Ao43 t557.length co43, .int .u64 t560, .int .u64 t561, .int .i64 t562, .int .i64 t563] 72 (0, 0)) (by (with_reducible repeat (first | refine blk_drewN ?_ _ | refine blk_drew ?_ | refine blk_alloc ?_ _)); exact BK565.out) hb); have n7_ := Aside0.mk (below_step (by repeat (first | (with_reducible first | exact HB.out | apply below_alloc | apply pw_below_drewN | apply below_drew1 | refine below_set ?_ GE544.out | refine below_set ?_ GE556.out | refine below_set ?_ GE565.out) | exact HB.out)) hb); clear HO_20; clear HO_22; clear HO_557000; clear HO_566000; clear BK544; clear BK556; clear BK565; clear HB; have HO_20 := n0_; have HO_22 := n1_; have HO_557000 := n2_; have HO_566000 := n3_; have BK544 := n4_; have BK556 := n5_; have BK565 := n6_; have HB := n7_; clear n0_ n1_ n2_ n3_ n4_ n5_ n6_ n7_; (try clear hb); (try clear hb2); (try clear hk); (try clear hi)))
     go_ret
     exact ⟨by first | rfl | (simp [errW_none, errW_some] <;> rfl) | (simp only [← hji26, ← hji28]; first | rfl | (simp [errW_none, errW_some] <;> rfl)) | (simp [*, errW_none, errW_some] <;> rfl), by repeat (first | (with_reducible first | exact HB.out | apply below_alloc | apply pw_below_drewN | apply below_drew1 | refine below_set ?_ GE544.out | refine below_set ?_ GE556.out | refine below_set ?_ GE565.out) | exact HB.out)⟩
    replace c66 := Bool.eq_false_iff.mpr c66
    subst c66
    have H1 : (some false) = some r := by rw [if_neg (show ¬ (false = true) by decide)] at H; exact H
    clear H
    have H := H1
    clear H1
    obtain rfl := Option.some.inj H
    have hnb83 := NB556_544.out
    have hnc83 := NB544_556.out
    have hnb84 := NB556_565.out
    have hnc84 := NB565_556.out
    have hcz85_0 : wc.cell? ⟨gb556, 0, none⟩ = some (.slice Ao52 t566.length co52) := (blk_cell BK556.out 0).trans rfl
    have hcz85_1 : wc.cell? ⟨gb556, 1, none⟩ = some (.int .u64 (IntKind.u64.wrap (t551 + (IntKind.u64.wrap (a3))))) := (blk_cell BK556.out 1).trans rfl
    have hcz85_2 : wc.cell? ⟨gb556, 2, none⟩ = some (.int .u64 t552) := (blk_cell BK556.out 2).trans rfl
    have hcz85_3 : wc.cell? ⟨gb556, 3, none⟩ = some (.int .i64 t553) := (blk_cell BK556.out 3).trans rfl
    have hcz85_4 : wc.cell? ⟨gb556, 4, none⟩ = some (.int .i64 t554) := (blk_cell BK556.out 4).trans rfl
    have hfz85_0 := blk_frozen BK556.out 0
    have hfz85_1 := blk_frozen BK556.out 1
    have hfz85_2 := blk_frozen BK556.out 2
    have hfz85_3 := blk_frozen BK556.out 3
    have hfz85_4 := blk_frozen BK556.out 4
    have hnb86 := NB565_544.out
    have hnc86 := NB544_565.out
    have hcz87_0 : wc.cell? ⟨gb565, 0, none⟩ = some (.slice Ao43 t557.length co43) := (blk_cell BK565.out 0).trans rfl
    have hcz87_1 : wc.cell? ⟨gb565, 1, none⟩ = some (.int .u64 t560) := (blk_cell BK565.out 1).trans rfl
    have hcz87_2 : wc.cell? ⟨gb565, 2, none⟩ = some (.int .u64 t561) := (blk_cell BK565.out 2).trans rfl
    have hcz87_3 : wc.cell? ⟨gb565, 3, none⟩ = some (.int .i64 t562) := (blk_cell BK565.out 3).trans rfl
    have hcz87_4 : wc.cell? ⟨gb565, 4, none⟩ = some (.int .i64 t563) := (blk_cell BK565.out 4).trans rfl
    have hfz87_0 := blk_frozen BK565.out 0
    have hfz87_1 := blk_frozen BK565.out 1
    have hfz87_2 := blk_frozen BK565.out 2
    have hfz87_3 := blk_frozen BK565.out 3
    have hfz87_4 := blk_frozen BK565.out 4
    go_wp2_with (first | (go_at_call 56; (with_reducible refine (spec_SameProof.calls kj31 _ _ t566 (IntKind.u64.wrap (t551 + (IntKind.u64.wrap (a3)))) t552 t553 t554 _ _ t557 t560 t561 t562 t563 false _ ?side1 ?side2 ?side3 ?side4 A65.out).mono ?_); (case side1 => repeat (first | exact (Kd.R_reads' HO_557000.out).2.2 | (with_reducible refine Kd.C_alloc ?_ _) | (with_reducible refine Kd.C_drewN ?_ _) | (with_reducible refine Kd.C_drew ?_))); (case side2 => exact (Kd.R_reads' HO_557000.out).2.1); (case side3 => repeat (first | exact (Kd.R_reads' HO_566000.out).2.2 | (with_reducible refine Kd.C_alloc ?_ _) | (with_reducible refine Kd.C_drewN ?_ _) | (with_reducible refine Kd.C_drew ?_))); (case side4 => exact (Kd.R_reads' HO_566000.out).2.1); rintro e w88 ⟨rfl, hb⟩; have n0_ := Aside0.mk (Kd.R_below (by (with_reducible repeat (first | apply Kd.R_alloc | apply Kd.R_drewN | apply Kd.R_drew)); exact HO_20.out) hb); have n1_ := Aside0.mk (Kd.R_below (by (with_reducible repeat (first | apply Kd.R_alloc | apply Kd.R_drewN | apply Kd.R_drew)); exact HO_22.out) hb); have n2_ := Aside0.mk (Kd.R_below (by (with_reducible repeat (first | apply Kd.R_alloc | apply Kd.R_drewN | apply Kd.R_drew)); exact HO_557000.out) hb); have n3_ := Aside0.mk (Kd.R_below (by (with_reducible repeat (first | apply Kd.R_alloc | apply Kd.R_drewN | apply Kd.R_drew)); exact HO_566000.out) hb); have n4_ := Aside0.mk (blk_below (g := gb544) (o := .cells #[.int .i64 a0_0, .int .i64 a0_1, .int .i64 a0_2, .int .u64 a0_3, .int .u64 a0_4, .int .u64 a0_5] 37 (0, 0)) (by (with_reducible repeat (first | refine blk_drewN ?_ _ | refine blk_drew ?_ | refine blk_alloc ?_ _)); exact BK544.out) hb); have n5_ := Aside0.mk (blk_below (g := gb556) (o := .cells #[.slice Ao52 t566.length co52, .int .u64 (IntKind.u64.wrap (t551 + (IntKind.u64.wrap (a3)))), .int .u64 t552, .int .i64 t553, .int .i64 t554] 72 (0, 0)) (by (with_reducible repeat (first | refine blk_drewN ?_ _ | refine blk_drew ?_ | refine blk_alloc ?_ _)); exact BK556.out) hb); have n6_ := Aside0.mk (blk_below (g := gb565) (o := .cells #[.slice Ao43 t557.length co43, .int .u64 t560, .int .u64 t561, .int .i64 t562, .int .i64 t563] 72 (0, 0)) (by (with_reducible repeat (first | refine blk_drewN ?_ _ | refine blk_drew ?_ | refine blk_alloc ?_ _)); exact BK565.out) hb); have n7_ := Aside0.mk (below_step (by repeat (first | (with_reducible first | exact HB.out | apply below_alloc | apply pw_below_drewN | apply below_drew1 | refine below_set ?_ GE544.out | refine below_set ?_ GE556.out | refine below_set ?_ GE565.out) | exact HB.out)) hb); clear HO_20; clear HO_22; clear HO_557000; clear HO_566000; clear BK544; clear BK556; clear BK565; clear HB; have HO_20 := n0_; have HO_22 := n1_; have HO_557000 := n2_; have HO_566000 := n3_; have BK544 := n4_; have BK556 := n5_; have BK565 := n6_; have HB := n7_; clear n0_ n1_ n2_ n3_ n4_ n5_ n6_ n7_; (try clear hb); (try clear hb2); (try clear hk); (try clear hi)))
    go_ret
    exact ⟨by first | rfl | (simp [errW_none, errW_some] <;> rfl) | (simp only [← hji26, ← hji28]; first | rfl | (simp [errW_none, errW_some] <;> rfl)) | (simp [*, errW_none, errW_some] <;> rfl), by repeat (first | (with_reducible first | exact HB.out | apply below_alloc | apply pw_below_drewN | apply below_drew1 | refine below_set ?_ GE544.out | refine below_set ?_ GE556.out | refine below_set ?_ GE565.out) | exact HB.out)⟩
   replace c64 := Bool.eq_false_iff.mpr c64
   subst c64
   have H1 : (some false) = some r := by rw [if_neg (show ¬ (false = true) by decide)] at H; exact H
   clear H
   have H := H1
   clear H1
   obtain rfl := Option.some.inj H
   go_wp2
   go_ret
   exact ⟨by first | rfl | (simp [errW_none, errW_some] <;> rfl) | (simp only [← hji26, ← hji28]; first | rfl | (simp [errW_none, errW_some] <;> rfl)) | (simp [*, errW_none, errW_some] <;> rfl), by repeat (first | (with_reducible first | exact HB.out | apply below_alloc | apply pw_below_drewN | apply below_drew1 | refine below_set ?_ GE544.out | refine below_set ?_ GE556.out | refine below_set ?_ GE565.out) | exact HB.out)⟩
  replace c63 := Bool.eq_false_iff.mpr c63
  subst c63
  have H1 : (some false) = some r := by rw [if_neg (show ¬ (false = true) by decide)] at H; exact H
  clear H
  have H := H1
  clear H1
  obtain rfl := Option.some.inj H
  go_wp2
  go_ret
  exact ⟨by first | rfl | (simp [errW_none, errW_some] <;> rfl) | (simp only [← hji26, ← hji28]; first | rfl | (simp [errW_none, errW_some] <;> rfl)) | (simp [*, errW_none, errW_some] <;> rfl), by repeat (first | (with_reducible first | exact HB.out | apply below_alloc | apply pw_below_drewN | apply below_drew1 | refine below_set ?_ GE544.out | refine below_set ?_ GE556.out | refine below_set ?_ GE565.out) | exact HB.out)⟩
 rw [if_neg c25] at H
 exact absurd H (by simp)
end Go.Proofs.YtijldedhcjkhiaaDoor.Z
