import Derived.Test.YtijldedhcjkhiaaDoorKZ0
import Derived.Test.YtijldedhcjkhiaaDoorKZ1
import Derived.Test.YtijldedhcjkhiaaDoorKZ2
import Derived.Test.YtijldedhcjkhiaaDoorKZ5
import Derived.Test.YtijldedhcjkhiaaDoorKZ9
namespace Go.Proofs.YtijldedhcjkhiaaDoor.Z
open Go.RowKit Go.Proofs.YtijldedhcjkhiaaDoorW.PrintWords Go.Proofs.YtijldedhcjkhiaaDoorW.PrintLast Go.Proofs.YtijldedhcjkhiaaDoorW.PrintMore
attribute [local go_sem] max2_int min2_int max_two min_two max_three min_three max_four min_four   -- for this text's walks alone
set_option linter.unusedVariables false
set_option linter.unusedSimpArgs false
attribute [local go_sem high] eqA70
def spec_SameProof.f (k : Nat) (l0_0 : List (S70)) (a0_1 : Int) (a0_2 : Int) (a0_3 : Int) (a0_4 : Int) (l1_0 : List (S70)) (a1_1 : Int) (a1_2 : Int) (a1_3 : Int) (a1_4 : Int) : Option (Bool) := (spec_SameNodes.f k l0_0 l1_0).bind fun t543 => (if t543 = true then (if (a0_1 == a1_1 && (a0_2 == a1_2)) = true then (if a0_3 = a1_3 then (some (a0_4 == a1_4)) else (some false)) else (some false)) else (some false))
theorem spec_SameProof.mono : ∀ a0 a1 a2 a3 a4 a5 a6 a7 a8 a9 k, LeO (spec_SameProof.f k a0 a1 a2 a3 a4 a5 a6 a7 a8 a9) (spec_SameProof.f (k + 1) a0 a1 a2 a3 a4 a5 a6 a7 a8 a9) := by
 intro a0 a1 a2 a3 a4 a5 a6 a7 a8 a9 k
 unfold spec_SameProof.f
 repeat' first
   | (with_reducible exact spec_SameNodes.mono _ _ _)
   | (with_reducible exact LeO.refl _)
   | (with_reducible exact LeO.none _)
   | (with_reducible refine LeO.ite ?_ ?_)
   | (with_reducible refine LeO.bind ?_ (fun _ => ?_))
   | exact spec_SameNodes.mono _ _ _
   | exact LeO.none _
   | refine LeO.ite ?_ ?_
   | refine LeO.bind ?_ (fun _ => ?_)
set_option maxHeartbeats 8000000 in
set_option maxRecDepth 100000 in
theorem spec_SameProof.calls (k : Nat) (A0_0 : Option Addr) (c0_0 : Nat) (l0_0 : List (S70)) (a0_1 : Int) (a0_2 : Int) (a0_3 : Int) (a0_4 : Int) (A1_0 : Option Addr) (c1_0 : Nat) (l1_0 : List (S70)) (a1_1 : Int) (a1_2 : Int) (a1_3 : Int) (a1_4 : Int) (r : Bool) (w : World) (hr0_0 : Kd.C k70 w A0_0 l0_0.length l0_0) (hc0_0 : l0_0.length ≤ c0_0) (hr1_0 : Kd.C k70 w A1_0 l1_0.length l1_0) (hc1_0 : l1_0.length ≤ c1_0) (h : spec_SameProof.f k l0_0 a0_1 a0_2 a0_3 a0_4 l1_0 a1_1 a1_2 a1_3 a1_4 = some r) :
  Calls Tryd.prog 56 #[.agg #[.slice A0_0 l0_0.length c0_0, .int .u64 a0_1, .int .u64 a0_2, .int .i64 a0_3, .int .i64 a0_4], .agg #[.slice A1_0 l1_0.length c1_0, .int .u64 a1_1, .int .u64 a1_2, .int .i64 a1_3, .int .i64 a1_4]] w fun e w' => e = .returned (.bool r) ∧ Below w.heap.size w w' := by
 have hu72 := Tryd.underlying72
 have hu70 := Tryd.underlying70
 have HR0_0 := Aside0.mk hr0_0
 have HC0_0 := Aside0.mk hc0_0
 clear hr0_0 hc0_0
 have HR1_0 := Aside0.mk hr1_0
 have HC1_0 := Aside0.mk hc1_0
 clear hr1_0 hc1_0
 have HB := Aside0.mk (Below.refl w.heap.size w)
 have H : ((spec_SameNodes.f k l0_0 l1_0).bind fun t543 => (if t543 = true then (if (a0_1 == a1_1 && (a0_2 == a1_2)) = true then (if a0_3 = a1_3 then (some (a0_4 == a1_4)) else (some false)) else (some false)) else (some false))) = some r := h
 clear h
 replace H := Option.bind_eq_some_iff.mp H
 obtain ⟨t543, A30, H⟩ := H
 replace H : (if t543 = true then (if (a0_1 == a1_1 && (a0_2 == a1_2)) = true then (if a0_3 = a1_3 then (some (a0_4 == a1_4)) else (some false)) else (some false)) else (some false)) = some r := H
 have A3 := Aside0.mk A30
 clear A30
 by_cases c4 : t543 = true
 ·subst c4
  have H1 : (if (a0_1 == a1_1 && (a0_2 == a1_2)) = true then (if a0_3 = a1_3 then (some (a0_4 == a1_4)) else (some false)) else (some false)) = some r := by rw [if_pos rfl] at H; exact H
  clear H
  have H := H1
  clear H1
  by_cases c5 : (a0_1 == a1_1 && (a0_2 == a1_2)) = true
  ·rw [if_pos c5] at H
   have c5b0 : (a0_1 == a1_1 && (a0_2 == a1_2)) = true := c5
   (try (have c5b1 : decide (a0_1 = a1_1 && (a0_2 == a1_2)) = true := by simpa using c5))
   (try (have c5b2 : (a0_1 == a1_1 && (a0_2 == a1_2)) = true := by simpa using c5))
   clear c5
   by_cases c6 : a0_3 = a1_3
   ·rw [if_pos c6] at H
    have c6b0 : (a0_3 == a1_3) = true := beq_iff_eq.mpr c6
    have c6b1 : (a0_3 != a1_3) = false := bne_eq_false_iff_eq.mpr c6
    clear c6
    obtain rfl := Option.some.inj H
    go_enter Tryd.func56, Tryd.ntmps56
    go_wp2_with (first | ((with_reducible refine gate_dst (N := 2) rfl ?_); refine box_event ?hg (N := 2) ?hd (cs := #[.slice A0_0 l0_0.length c0_0, .int .u64 a0_1, .int .u64 a0_2, .int .i64 a0_3, .int .i64 a0_4]) (t := 72) ?hr ?_; (case hd => rfl); (case hg => rfl); (case hr => first | (go_simp; done) | (go_simp; rfl)); intro gb541 hg w7 hbox hb; have n0_ := Aside0.mk (below_step (by repeat (first | (with_reducible first | exact HB.out | apply below_alloc | apply pw_below_drewN | apply below_drew1) | exact HB.out)) hb); have n1_ := Aside0.mk (hbox); have n2_ := Aside0.mk ((by rw [hg]; exact (below_size (by repeat (first | (with_reducible first | exact HB.out | apply below_alloc | apply pw_below_drewN | apply below_drew1) | exact HB.out))) : w.heap.size ≤ gb541)); have n3_ := Aside0.mk ((by rw [hg]; exact (below_size (by repeat (first | (with_reducible first | exact HB.out | apply below_alloc | apply pw_below_drewN | apply below_drew1) | exact HB.out))) : w.heap.size ≤ gb541)); clear HB; have HB := n0_; have BK541 := n1_; have GW541 := n2_; have GE541 := n3_; clear n0_ n1_ n2_ n3_; clear hb hbox hg) | ((with_reducible refine gate_dst (N := 3) rfl ?_); refine box_event ?hg (N := 3) ?hd (cs := #[.slice A1_0 l1_0.length c1_0, .int .u64 a1_1, .int .u64 a1_2, .int .i64 a1_3, .int .i64 a1_4]) (t := 72) ?hr ?_; (case hd => rfl); (case hg => rfl); (case hr => first | (go_simp; done) | (go_simp; rfl)); intro gb542 hg w8 hbox hb; have n0_ := Aside0.mk (blk_below (g := gb541) (o := .cells #[.slice A0_0 l0_0.length c0_0, .int .u64 a0_1, .int .u64 a0_2, .int .i64 a0_3, .int .i64 a0_4] 72 (0, 0)) (by (with_reducible repeat (first | refine blk_drewN ?_ _ | refine blk_drew ?_ | refine blk_alloc ?_ _)); exact BK541.out) hb); have n1_ := Aside0.mk (below_step (by repeat (first | (with_reducible first | exact HB.out | apply below_alloc | apply pw_below_drewN | apply below_drew1 | refine below_set ?_ GE541.out) | exact HB.out)) hb); have n2_ := Aside0.mk (hbox); have n3_ := Aside0.mk ((by rw [hg]; exact (below_size (by repeat (first | (with_reducible first | exact HB.out | apply below_alloc | apply pw_below_drewN | apply below_drew1 | refine below_set ?_ GE541.out) | exact HB.out))) : w.heap.size ≤ gb542)); have n4_ := Aside0.mk ((by rw [hg]; exact (below_size (by repeat (first | (with_reducible first | exact HB.out | apply below_alloc | apply pw_below_drewN | apply below_drew1 | refine below_set ?_ GE541.out) | exact HB.out))) : w.heap.size ≤ gb542)); have n5_ := Aside0.mk ((by rw [hg]; exact Nat.ne_of_lt (blk_lt (g := gb541) (o := .cells #[.slice A0_0 l0_0.length c0_0, .int .u64 a0_1, .int .u64 a0_2, .int .i64 a0_3, .int .i64 a0_4] 72 (0, 0)) (by (with_reducible repeat (first | refine blk_drewN ?_ _ | refine blk_drew ?_ | refine blk_alloc ?_ _)); exact BK541.out)) : gb541 ≠ gb542)); have n6_ := Aside0.mk ((by rw [hg]; exact Nat.ne_of_gt (blk_lt (g := gb541) (o := .cells #[.slice A0_0 l0_0.length c0_0, .int .u64 a0_1, .int .u64 a0_2, .int .i64 a0_3, .int .i64 a0_4] 72 (0, 0)) (by (with_reducible repeat (first | refine blk_drewN ?_ _ | refine blk_drew ?_ | refine blk_alloc ?_ _)); exact BK541.out)) : gb542 ≠ gb541)); clear BK541; clear HB; have BK541 := n0_; have HB := n1_; have BK542 := n2_; have GW542 := n3_; have GE542 := n4_; have NB541_542 := n5_; have NB542_541 := n6_; clear n0_ n1_ n2_ n3_ n4_ n5_ n6_; clear hb hbox hg; have hnb9 := NB541_542.out; have hnc9 := NB542_541.out; have hcz10_0 : w8.cell? ⟨gb541, 0, none⟩ = some (.slice A0_0 l0_0.length c0_0) := (blk_cell BK541.out 0).trans rfl; have hcz10_1 : w8.cell? ⟨gb541, 1, none⟩ = some (.int .u64 a0_1) := (blk_cell BK541.out 1).trans rfl; have hcz10_2 : w8.cell? ⟨gb541, 2, none⟩ = some (.int .u64 a0_2) := (blk_cell BK541.out 2).trans rfl; have hcz10_3 : w8.cell? ⟨gb541, 3, none⟩ = some (.int .i64 a0_3) := (blk_cell BK541.out 3).trans rfl; have hcz10_4 : w8.cell? ⟨gb541, 4, none⟩ = some (.int .i64 a0_4) := (blk_cell BK541.out 4).trans rfl; have hfz10_0 := blk_frozen BK541.out 0; have hfz10_1 := blk_frozen BK541.out 1; have hfz10_2 := blk_frozen BK541.out 2; have hfz10_3 := blk_frozen BK541.out 3; have hfz10_4 := blk_frozen BK541.out 4; have hcz11_0 : w8.cell? ⟨gb542, 0, none⟩ = some (.slice A1_0 l1_0.length c1_0) := (blk_cell BK542.out 0).trans rfl; have hcz11_1 : w8.cell? ⟨gb542, 1, none⟩ = some (.int .u64 a1_1) := (blk_cell BK542.out 1).trans rfl; have hcz11_2 : w8.cell? ⟨gb542, 2, none⟩ = some (.int .u64 a1_2) := (blk_cell BK542.out 2).trans rfl; have hcz11_3 : w8.cell? ⟨gb542, 3, none⟩ = some (.int .i64 a1_3) := (blk_cell BK542.out 3).trans rfl; have hcz11_4 : w8.cell? ⟨gb542, 4, none⟩ = some (.int .i64 a1_4) := (blk_cell BK542.out 4).trans rfl; have hfz11_0 := blk_frozen BK542.out 0; have hfz11_1 := blk_frozen BK542.out 1; have hfz11_2 := blk_frozen BK542.out 2; have hfz11_3 := blk_frozen BK542.out 3; have hfz11_4 := blk_frozen BK542.out 4) | ((with_reducible refine gate_callee (f := 17) rfl ?_); refine goesL_ (some 9) rfl rfl Tryd.func17 (by kernel_rfl) rfl #[.slice A0_0 l0_0.length c0_0, .slice A1_0 l1_0.length c1_0] rfl (by (try simp only [List.map_toArray, List.map_cons, List.map_nil]); first | done | rfl | (simp only [List.length_drop, List.length_take]; rfl)) ?_; (with_reducible refine (spec_SameNodes.calls k _ _ l0_0 _ _ l1_0 true _ ?side1 ?side2 ?side3 ?side4 A3.out).mono ?_); (case side1 => repeat (first | exact (Kd.C_below HR0_0.out HB.out) | (with_reducible refine Kd.C_alloc ?_ _) | (with_reducible refine Kd.C_drewN ?_ _) | (with_reducible refine Kd.C_drew ?_))); (case side2 => exact HC0_0.out); (case side3 => repeat (first | exact (Kd.C_below HR1_0.out HB.out) | (with_reducible refine Kd.C_alloc ?_ _) | (with_reducible refine Kd.C_drewN ?_ _) | (with_reducible refine Kd.C_drew ?_))); (case side4 => exact HC1_0.out); rintro e w' ⟨rfl, ⟨nd, rfl⟩⟩; refine ⟨_, rfl, ?_⟩))
    go_ret
    exact ⟨by first | rfl | (simp [errW_none, errW_some] <;> rfl) | (simp [*, errW_none, errW_some] <;> rfl), by repeat (first | (with_reducible first | exact HB.out | apply below_alloc | apply pw_below_drewN | apply below_drew1 | refine below_set ?_ GE541.out | refine below_set ?_ GE542.out) | exact HB.out)⟩
   ·rw [if_neg c6] at H
    have c6b0 : (a0_3 == a1_3) = false := beq_eq_false_iff_ne.mpr c6
    have c6b1 : (a0_3 != a1_3) = true := bne_iff_ne.mpr c6
    obtain rfl := Option.some.inj H
    go_enter Tryd.func56, Tryd.ntmps56
    go_wp2_with (first | ((with_reducible refine gate_dst (N := 2) rfl ?_); refine box_event ?hg (N := 2) ?hd (cs := #[.slice A0_0 l0_0.length c0_0, .int .u64 a0_1, .int .u64 a0_2, .int .i64 a0_3, .int .i64 a0_4]) (t := 72) ?hr ?_; (case hd => rfl); (case hg => rfl); (case hr => first | (go_simp; done) | (go_simp; rfl)); intro gb541 hg w12 hbox hb; have n0_ := Aside0.mk (below_step (by repeat (first | (with_reducible first | exact HB.out | apply below_alloc | apply pw_below_drewN | apply below_drew1) | exact HB.out)) hb); have n1_ := Aside0.mk (hbox); have n2_ := Aside0.mk ((by rw [hg]; exact (below_size (by repeat (first | (with_reducible first | exact HB.out | apply below_alloc | apply pw_below_drewN | apply below_drew1) | exact HB.out))) : w.heap.size ≤ gb541)); have n3_ := Aside0.mk ((by rw [hg]; exact (below_size (by repeat (first | (with_reducible first | exact HB.out | apply below_alloc | apply pw_below_drewN | apply below_drew1) | exact HB.out))) : w.heap.size ≤ gb541)); clear HB; have HB := n0_; have BK541 := n1_; have GW541 := n2_; have GE541 := n3_; clear n0_ n1_ n2_ n3_; clear hb hbox hg) | ((with_reducible refine gate_dst (N := 3) rfl ?_); refine box_event ?hg (N := 3) ?hd (cs := #[.slice A1_0 l1_0.length c1_0, .int .u64 a1_1, .int .u64 a1_2, .int .i64 a1_3, .int .i64 a1_4]) (t := 72) ?hr ?_; (case hd => rfl); (case hg => rfl); (case hr => first | (go_simp; done) | (go_simp; rfl)); intro gb542 hg w13 hbox hb; have n0_ := Aside0.mk (blk_below (g := gb541) (o := .cells #[.slice A0_0 l0_0.length c0_0, .int .u64 a0_1, .int .u64 a0_2, .int .i64 a0_3, .int .i64 a0_4] 72 (0, 0)) (by (with_reducible repeat (first | refine blk_drewN ?_ _ | refine blk_drew ?_ | refine blk_alloc ?_ _)); exact BK541.out) hb); have n1_ := Aside0.mk (below_step (by repeat (first | (with_reducible first | exact HB.out | apply below_alloc | apply pw_below_drewN | apply below_drew1 | refine below_set ?_ GE541.out) | exact HB.out)) hb); have n2_ := Aside0.mk (hbox); have n3_ := Aside0.mk ((by rw [hg]; exact (below_size (by repeat (first | (with_reducible first | exact HB.out | apply below_alloc | apply pw_below_drewN | apply below_drew1 | refine below_set ?_ GE541.out) | exact HB.out))) : w.heap.size ≤ gb542)); have n4_ := Aside0.mk ((by rw [hg]; exact (below_size (by repeat (first | (with_reducible first | exact HB.out | apply below_alloc | apply pw_below_drewN | apply below_drew1 | refine below_set ?_ GE541.out) | exact HB.out))) : w.heap.size ≤ gb542)); have n5_ := Aside0.mk ((by rw [hg]; exact Nat.ne_of_lt (blk_lt (g := gb541) (o := .cells #[.slice A0_0 l0_0.length c0_0, .int .u64 a0_1, .int .u64 a0_2, .int .i64 a0_3, .int .i64 a0_4] 72 (0, 0)) (by (with_reducible repeat (first | refine blk_drewN ?_ _ | refine blk_drew ?_ | refine blk_alloc ?_ _)); exact BK541.out)) : gb541 ≠ gb542)); have n6_ := Aside0.mk ((by rw [hg]; exact Nat.ne_of_gt (blk_lt (g := gb541) (o := .cells #[.slice A0_0 l0_0.length c0_0, .int .u64 a0_1, .int .u64 a0_2, .int .i64 a0_3, .int .i64 a0_4] 72 (0, 0)) (by (with_reducible repeat (first | refine blk_drewN ?_ _ | refine blk_drew ?_ | refine blk_alloc ?_ _)); exact BK541.out)) : gb542 ≠ gb541)); clear BK541; clear HB; have BK541 := n0_; have HB := n1_; have BK542 := n2_; have GW542 := n3_; have GE542 := n4_; have NB541_542 := n5_; have NB542_541 := n6_; clear n0_ n1_ n2_ n3_ n4_ n5_ n6_; clear hb hbox hg; have hnb14 := NB541_542.out; have hnc14 := NB542_541.out; have hcz15_0 : w13.cell? ⟨gb541, 0, none⟩ = some (.slice A0_0 l0_0.length c0_0) := (blk_cell BK541.out 0).trans rfl; have hcz15_1 : w13.cell? ⟨gb541, 1, none⟩ = some (.int .u64 a0_1) := (blk_cell BK541.out 1).trans rfl; have hcz15_2 : w13.cell? ⟨gb541, 2, none⟩ = some (.int .u64 a0_2) := (blk_cell BK541.out 2).trans rfl; have hcz15_3 : w13.cell? ⟨gb541, 3, none⟩ = some (.int .i64 a0_3) := (blk_cell BK541.out 3).trans rfl; have hcz15_4 : w13.cell? ⟨gb541, 4, none⟩ = some (.int .i64 a0_4) := (blk_cell BK541.out 4).trans rfl; have hfz15_0 := blk_frozen BK541.out 0; have hfz15_1 := blk_frozen BK541.out 1; have hfz15_2 := blk_frozen BK541.out 2; have hfz15_3 := blk_frozen BK541.out 3; have hfz15_4 := blk_frozen BK541.out 4; have hcz16_0 : w13.cell? ⟨gb542, 0, none⟩ = some (.slice A1_0 l1_0.length c1_0) := (blk_cell BK542.out 0).trans rfl; have hcz16_1 : w13.cell? ⟨gb542, 1, none⟩ = some (.int .u64 a1_1) := (blk_cell BK542.out 1).trans rfl; have hcz16_2 : w13.cell? ⟨gb542, 2, none⟩ = some (.int .u64 a1_2) := (blk_cell BK542.out 2).trans rfl; have hcz16_3 : w13.cell? ⟨gb542, 3, none⟩ = some (.int .i64 a1_3) := (blk_cell BK542.out 3).trans rfl; have hcz16_4 : w13.cell? ⟨gb542, 4, none⟩ = some (.int .i64 a1_4) := (blk_cell BK542.out 4).trans rfl; have hfz16_0 := blk_frozen BK542.out 0; have hfz16_1 := blk_frozen BK542.out 1; have hfz16_2 := blk_frozen BK542.out 2; have hfz16_3 := blk_frozen BK542.out 3; have hfz16_4 := blk_frozen BK542.out 4) | ((with_reducible refine gate_callee (f := 17) rfl ?_); refine goesL_ (some 9) rfl rfl Tryd.func17 (by kernel_rfl) rfl #[.slice A0_0 l0_0.length c0_0, .slice A1_0 l1_0.length c1_0] rfl (by (try simp only [List.map_toArray, List.map_cons, List.map_nil]); first | done | rfl | (simp only [List.length_drop, List.length_take]; rfl)) ?_; (with_reducible refine (spec_SameNodes.calls k _ _ l0_0 _ _ l1_0 true _ ?side1 ?side2 ?side3 ?side4 A3.out).mono ?_); (case side1 => repeat (first | exact (Kd.C_below HR0_0.out HB.out) | (with_reducible refine Kd.C_alloc ?_ _) | (with_reducible refine Kd.C_drewN ?_ _) | (with_reducible refine Kd.C_drew ?_))); (case side2 => exact HC0_0.out); (case side3 => repeat (first | exact (Kd.C_below HR1_0.out HB.out) | (with_reducible refine Kd.C_alloc ?_ _) | (with_reducible refine Kd.C_drewN ?_ _) | (with_reducible refine Kd.C_drew ?_))); (case side4 => exact HC1_0.out); rintro e w' ⟨rfl, ⟨nd, rfl⟩⟩; refine ⟨_, rfl, ?_⟩))
    go_ret
    exact ⟨by first | rfl | (simp [errW_none, errW_some] <;> rfl) | (simp [*, errW_none, errW_some] <;> rfl), by repeat (first | (with_reducible first | exact HB.out | apply below_alloc | apply pw_below_drewN | apply below_drew1 | refine below_set ?_ GE541.out | refine below_set ?_ GE542.out) | exact HB.out)⟩
  ·rw [if_neg c5] at H
   have c5b0 : (a0_1 == a1_1 && (a0_2 == a1_2)) = false := by simpa using c5
   (try (have c5b1 : decide (a0_1 = a1_1 && (a0_2 == a1_2)) = false := by simpa using c5))
   (try (have c5b2 : (a0_1 == a1_1 && (a0_2 == a1_2)) = false := by simpa using c5))
   (try (have c5b3 : ¬ (a0_1 = a1_1 && (a0_2 == a1_2)) := by simpa using c5))
   clear c5
   obtain rfl := Option.some.inj H
   go_enter Tryd.func56, Tryd.ntmps56
   go_wp2_with (first | ((with_reducible refine gate_dst (N := 2) rfl ?_); refine box_event ?hg (N := 2) ?hd (cs := #[.slice A0_0 l0_0.length c0_0, .int .u64 a0_1, .int .u64 a0_2, .int .i64 a0_3, .int .i64 a0_4]) (t := 72) ?hr ?_; (case hd => rfl); (case hg => rfl); (case hr => first | (go_simp; done) | (go_simp; rfl)); intro gb541 hg w17 hbox hb; have n0_ := Aside0.mk (below_step (by repeat (first | (with_reducible first | exact HB.out | apply below_alloc | apply pw_below_drewN | apply below_drew1) | exact HB.out)) hb); have n1_ := Aside0.mk (hbox); have n2_ := Aside0.mk ((by rw [hg]; exact (below_size (by repeat (first | (with_reducible first | exact HB.out | apply below_alloc | apply pw_below_drewN | apply below_drew1) | exact HB.out))) : w.heap.size ≤ gb541)); have n3_ := Aside0.mk ((by rw [hg]; exact (below_size (by repeat (first | (with_reducible first | exact HB.out | apply below_alloc | apply pw_below_drewN | apply below_drew1) | exact HB.out))) : w.heap.size ≤ gb541)); clear HB; have HB := n0_; have BK541 := n1_; have GW541 := n2_; have GE541 := n3_; clear n0_ n1_ n2_ n3_; clear hb hbox hg) | ((with_reducible refine gate_dst (N := 3) rfl ?_); refine box_event ?hg (N := 3) ?hd (cs := #[.slice A1_0 l1_0.length c1_0, .int .u64 a1_1, .int .u64 a1_2, .int .i64 a1_3, .int .i64 a1_4]) (t := 72) ?hr ?_; (case hd => rfl); (case hg => rfl); (case hr => first | (go_simp; done) | (go_simp; rfl)); intro gb542 hg w18 hbox hb; have n0_ := Aside0.mk (blk_below (g := gb541) (o := .cells #[.slice A0_0 l0_0.length c0_0, .int .u64 a0_1, .int .u64 a0_2, .int .i64 a0_3, .int .i64 a0_4] 72 (0, 0)) (by (with_reducible repeat (first | refine blk_drewN ?_ _ | refine blk_drew ?_ | refine blk_alloc ?_ _)); exact BK541.out) hb); have n1_ := Aside0.mk (below_step (by repeat (first | (with_reducible first | exact HB.out | apply below_alloc | apply pw_below_drewN | apply below_drew1 | refine below_set ?_ GE541.out) | exact HB.out)) hb); have n2_ := Aside0.mk (hbox); have n3_ := Aside0.mk ((by rw [hg]; exact (below_size (by repeat (first | (with_reducible first | exact HB.out | apply below_alloc | apply pw_below_drewN | apply below_drew1 | refine below_set ?_ GE541.out) | exact HB.out))) : w.heap.size ≤ gb542)); have n4_ := Aside0.mk ((by rw [hg]; exact (below_size (by repeat (first | (with_reducible first | exact HB.out | apply below_alloc | apply pw_below_drewN | apply below_drew1 | refine below_set ?_ GE541.out) | exact HB.out))) : w.heap.size ≤ gb542)); have n5_ := Aside0.mk ((by rw [hg]; exact Nat.ne_of_lt (blk_lt (g := gb541) (o := .cells #[.slice A0_0 l0_0.length c0_0, .int .u64 a0_1, .int .u64 a0_2, .int .i64 a0_3, .int .i64 a0_4] 72 (0, 0)) (by (with_reducible repeat (first | refine blk_drewN ?_ _ | refine blk_drew ?_ | refine blk_alloc ?_ _)); exact BK541.out)) : gb541 ≠ gb542)); have n6_ := Aside0.mk ((by rw [hg]; exact Nat.ne_of_gt (blk_lt (g := gb541) (o := .cells #[.slice A0_0 l0_0.length c0_0, .int .u64 a0_1, .int .u64 a0_2, .int .i64 a0_3, .int .i64 a0_4] 72 (0, 0)) (by (with_reducible repeat (first | refine blk_drewN ?_ _ | refine blk_drew ?_ | refine blk_alloc ?_ _)); exact BK541.out)) : gb542 ≠ gb541)); clear BK541; clear HB; have BK541 := n0_; have HB := n1_; have BK542 := n2_; have GW542 := n3_; have GE542 := n4_; have NB541_542 := n5_; have NB542_541 := n6_; clear n0_ n1_ n2_ n3_ n4_ n5_ n6_; clear hb hbox hg; have hnb19 := NB541_542.out; have hnc19 := NB542_541.out; have hcz20_0 : w18.cell? ⟨gb541, 0, none⟩ = some (.slice A0_0 l0_0.length c0_0) := (blk_cell BK541.out 0).trans rfl; have hcz20_1 : w18.cell? ⟨gb541, 1, none⟩ = some (.int .u64 a0_1) := (blk_cell BK541.out 1).trans rfl; have hcz20_2 : w18.cell? ⟨gb541, 2, none⟩ = some (.int .u64 a0_2) := (blk_cell BK541.out 2).trans rfl; have hcz20_3 : w18.cell? ⟨gb541, 3, none⟩ = some (.int .i64 a0_3) := (blk_cell BK541.out 3).trans rfl; have hcz20_4 : w18.cell? ⟨gb541, 4, none⟩ = some (.int .i64 a0_4) := (blk_cell BK541.out 4).trans rfl; have hfz20_0 := blk_frozen BK541.out 0; have hfz20_1 := blk_frozen BK541.out 1; have hfz20_2 := blk_frozen BK541.out 2; have hfz20_3 := blk_frozen BK541.out 3; have hfz20_4 := blk_frozen BK541.out 4; have hcz21_0 : w18.cell? ⟨gb542, 0, none⟩ = some (.slice A1_0 l1_0.length c1_0) := (blk_cell BK542.out 0).trans rfl; have hcz21_1 : w18.cell? ⟨gb542, 1, none⟩ = some (.int .u64 a1_1) := (blk_cell BK542.out 1).trans rfl; have hcz21_2 : w18.cell? ⟨gb542, 2, none⟩ = some (.int .u64 a1_2) := (blk_cell BK542.out 2).trans rfl; have hcz21_3 : w18.cell? ⟨gb542, 3, none⟩ = some (.int .i64 a1_3) := (blk_cell BK542.out 3).trans rfl; have hcz21_4 : w18.cell? ⟨gb542, 4, none⟩ = some (.int .i64 a1_4) := (blk_cell BK542.out 4).trans rfl; have hfz21_0 := blk_frozen BK542.out 0; have hfz21_1 := blk_frozen BK542.out 1; have hfz21_2 := blk_frozen BK542.out 2; have hfz21_3 := blk_frozen BK542.out 3; have hfz21_4 := blk_frozen BK542.out 4) | ((with_reducible refine gate_callee (f := 17) rfl ?_); refine goesL_ (some 9) rfl rfl Tryd.func17 (by kernel_rfl) rfl #[.slice A0_0 l0_0.length c0_0, .slice A1_0 l1_0.length c1_0] rfl (by (try simp only [List.map_toArray, List.map_cons, List.map_nil]); first | done | rfl | (simp only [List.length_drop, List.length_take]; rfl)) ?_; (with_reducible refine (spec_SameNodes.calls k _ _ l0_0 _ _ l1_0 true _ ?side1 ?side2 ?side3 ?side4 A3.out).mono ?_); (case side1 => repeat (first | exact (Kd.C_below HR0_0.out HB.out) | (with_reducible refine Kd.C_alloc ?_ _) | (with_reducible refine Kd.C_drewN ?_ _) | (with_reducible refine Kd.C_drew ?_))); (case side2 => exact HC0_0.out); (case side3 => repeat (first | exact (Kd.C_below HR1_0.out HB.out) | (with_reducible refine Kd.C_alloc ?_ _) | (with_reducible refine Kd.C_drewN ?_ _) | (with_reducible refine Kd.C_drew ?_))); (case side4 => exact HC1_0.out); rintro e w' ⟨rfl, ⟨nd, rfl⟩⟩; refine ⟨_, rfl, ?_⟩))
   go_ret
   exact ⟨by first | rfl | (simp [errW_none, errW_some] <;> rfl) | (simp [*, errW_none, errW_some] <;> rfl), by repeat (first | (with_reducible first | exact HB.out | apply below_alloc | apply pw_below_drewN | apply below_drew1 | refine below_set ?_ GE541.out | refine below_set ?_ GE542.out) | exact HB.out)⟩
 ·replace c4 := Bool.eq_false_iff.mpr c4
  subst c4
  have H1 : (some false) = some r := by rw [if_neg (show ¬ (false = true) by decide)] at H; exact H
  clear H
  have H := H1
  clear H1
  obtain rfl := Option.some.inj H
  go_enter Tryd.func56, Tryd.ntmps56
  go_wp2_with (first | ((with_reducible refine gate_dst (N := 2) rfl ?_); refine box_event ?hg (N := 2) ?hd (cs := #[.slice A0_0 l0_0.length c0_0, .int .u64 a0_1, .int .u64 a0_2, .int .i64 a0_3, .int .i64 a0_4]) (t := 72) ?hr ?_; (case hd => rfl); (case hg => rfl); (case hr => first | (go_simp; done) | (go_simp; rfl)); intro gb541 hg w22 hbox hb; have n0_ := Aside0.mk (below_step (by repeat (first | (with_reducible first | exact HB.out | apply below_alloc | apply pw_below_drewN | apply below_drew1) | exact HB.out)) hb); have n1_ := Aside0.mk (hbox); have n2_ := Aside0.mk ((by rw [hg]; exact (below_size (by repeat (first | (with_reducible first | exact HB.out | apply below_alloc | apply pw_below_drewN | apply below_drew1) | exact HB.out))) : w.heap.size ≤ gb541)); have n3_ := Aside0.mk ((by rw [hg]; exact (below_size (by repeat (first | (with_reducible first | exact HB.out | apply below_alloc | apply pw_below_drewN | apply below_drew1) | exact HB.out))) : w.heap.size ≤ gb541)); clear HB; have HB := n0_; have BK541 := n1_; have GW541 := n2_; have GE541 := n3_; clear n0_ n1_ n2_ n3_; clear hb hbox hg) | ((with_reducible refine gate_dst (N := 3) rfl ?_); refine box_event ?hg (N := 3) ?hd (cs := #[.slice A1_0 l1_0.length c1_0, .int .u64 a1_1, .int .u64 a1_2, .int .i64 a1_3, .int .i64 a1_4]) (t := 72) ?hr ?_; (case hd => rfl); (case hg => rfl); (case hr => first | (go_simp; done) | (go_simp; rfl)); intro gb542 hg w23 hbox hb; have n0_ := Aside0.mk (blk_below (g := gb541) (o := .cells #[.slice A0_0 l0_0.length c0_0, .int .u64 a0_1, .int .u64 a0_2, .int .i64 a0_3, .int .i64 a0_4] 72 (0, 0)) (by (with_reducible repeat (first | refine blk_drewN ?_ _ | refine blk_drew ?_ | refine blk_alloc ?_ _)); exact BK541.out) hb); have n1_ := Aside0.mk (below_step (by repeat (first | (with_reducible first | exact HB.out | apply below_alloc | apply pw_below_drewN | apply below_drew1 | refine below_set ?_ GE541.out) | exact HB.out)) hb); have n2_ := Aside0.mk (hbox); have n3_ := Aside0.mk ((by rw [hg]; exact (below_size (by repeat (first | (with_reducible first | exact HB.out | apply below_alloc | apply pw_below_drewN | apply below_drew1 | refine below_set ?_ GE541.out) | exact HB.out))) : w.heap.size ≤ gb542)); have n4_ := Aside0.mk ((by rw [hg]; exact (below_size (by repeat (first | (with_reducible first | exact HB.out | apply below_alloc | apply pw_below_drewN | apply below_drew1 | refine below_set ?_ GE541.out) | exact HB.out))) : w.heap.size ≤ gb542)); have n5_ := Aside0.mk ((by rw [hg]; exact Nat.ne_of_lt (blk_lt (g := gb541) (o := .cells #[.slice A0_0 l0_0.length c0_0, .int .u64 a0_1, .int .u64 a0_2, .int .i64 a0_3, .int .i64 a0_4] 72 (0, 0)) (by (with_reducible repeat (first | refine blk_drewN ?_ _ | refine blk_drew ?_ | refine blk_alloc ?_ _)); exact BK541.out)) : gb541 ≠ gb542)); have n6_ := Aside0.mk ((by rw [hg]; exact Nat.ne_of_gt (blk_lt (g := gb541) (o := .cells #[.slice A0_0 l0_0.length c0_0, .int .u64 a0_1, .int .u64 a0_2, .int .i64 a0_3, .int .i64 a0_4] 72 (0, 0)) (by (with_reducible repeat (first | refine blk_drewN ?_ _ | refine blk_drew ?_ | refine blk_alloc ?_ _)); exact BK541.out)) : gb542 ≠ gb541)); clear BK541; clear HB; have BK541 := n0_; have HB := n1_; have BK542 := n2_; have GW542 := n3_; have GE542 := n4_; have NB541_542 := n5_; have NB542_541 := n6_; clear n0_ n1_ n2_ n3_ n4_ n5_ n6_; clear hb hbox hg; have hnb24 := NB541_542.out; have hnc24 := NB542_541.out; have hcz25_0 : w23.cell? ⟨gb541, 0, none⟩ = some (.slice A0_0 l0_0.length c0_0) := (blk_cell BK541.out 0).trans rfl; have hcz25_1 : w23.cell? ⟨gb541, 1, none⟩ = some (.int .u64 a0_1) := (blk_cell BK541.out 1).trans rfl; have hcz25_2 : w23.cell? ⟨gb541, 2, none⟩ = some (.int .u64 a0_2) := (blk_cell BK541.out 2).trans rfl; have hcz25_3 : w23.cell? ⟨gb541, 3, none⟩ = some (.int .i64 a0_3) := (blk_cell BK541.out 3).trans rfl; have hcz25_4 : w23.cell? ⟨gb541, 4, none⟩ = some (.int .i64 a0_4) := (blk_cell BK541.out 4).trans rfl; have hfz25_0 := blk_frozen BK541.out 0; have hfz25_1 := blk_frozen BK541.out 1; have hfz25_2 := blk_frozen BK541.out 2; have hfz25_3 := blk_frozen BK541.out 3; have hfz25_4 := blk_frozen BK541.out 4; have hcz26_0 : w23.cell? ⟨gb542, 0, none⟩ = some (.slice A1_0 l1_0.length c1_0) := (blk_cell BK542.out 0).trans rfl; have hcz26_1 : w23.cell? ⟨gb542, 1, none⟩ = some (.int .u64 a1_1) := (blk_cell BK542.out 1).trans rfl; have hcz26_2 : w23.cell? ⟨gb542, 2, none⟩ = some (.int .u64 a1_2) := (blk_cell BK542.out 2).trans rfl; have hcz26_3 : w23.cell? ⟨gb542, 3, none⟩ = some (.int .i64 a1_3) := (blk_cell BK542.out 3).trans rfl; have hcz26_4 : w23.cell? ⟨gb542, 4, none⟩ = some (.int .i64 a1_4) := (blk_cell BK542.out 4).trans rfl; have hfz26_0 := blk_frozen BK542.out 0; have hfz26_1 := blk_frozen BK542.out 1; have hfz26_2 := blk_frozen BK542.out 2; have hfz26_3 := blk_frozen BK542.out 3; have hfz26_4 := blk_frozen BK542.out 4) | ((with_reducible refine gate_callee (f := 17) rfl ?_); refine goesL_ (some 9) rfl rfl Tryd.func17 (by kernel_rfl) rfl #[.slice A0_0 l0_0.length c0_0, .slice A1_0 l1_0.length c1_0] rfl (by (try simp only [List.map_toArray, List.map_cons, List.map_nil]); first | done | rfl | (simp only [List.length_drop, List.length_take]; rfl)) ?_; (with_reducible refine (spec_SameNodes.calls k _ _ l0_0 _ _ l1_0 false _ ?side1 ?side2 ?side3 ?side4 A3.out).mono ?_); (case side1 => repeat (first | exact (Kd.C_below HR0_0.out HB.out) | (with_reducible refine Kd.C_alloc ?_ _) | (with_reducible refine Kd.C_drewN ?_ _) | (with_reducible refine Kd.C_drew ?_))); (case side2 => exact HC0_0.out); (case side3 => repeat (first | exact (Kd.C_below HR1_0.out HB.out) | (with_reducible refine Kd.C_alloc ?_ _) | (with_reducible refine Kd.C_drewN ?_ _) | (with_reducible refine Kd.C_drew ?_))); (case side4 => exact HC1_0.out); rintro e w' ⟨rfl, ⟨nd, rfl⟩⟩; refine ⟨_, rfl, ?_⟩))
  go_ret
  exact ⟨by first | rfl | (simp [errW_none, errW_some] <;> rfl) | (simp [*, errW_none, errW_some] <;> rfl), by repeat (first | (with_reducible first | exact HB.out | apply below_alloc | apply pw_below_drewN | apply below_drew1 | refine below_set ?_ GE541.out | refine below_set ?_ GE542.out) | exact HB.out)⟩
mutual
def laws_FnConsistencyScaled.j0 : Nat → Int → Int → Int → List (List Int) → List Int → List Int → Bool → Int → Int → Int → Int → Int → Int → Option (Bool)
 | 0, _, _, _, _, _, _, _, _, _, _, _, _, _ => none
 | k + 1, x1, x2, x3, x4, x5, x6, x35, x545000, x545001, x545002, x545003, x545004, x545005 => if x35 = true then (some true) else (laws_FnConsistencyScaled.j1 k x1 x2 x3 x4 x5 x6 x545000 x545001 x545002 x545003 x545004 x545005)
def laws_FnConsistencyScaled.j1 : Nat → Int → Int → Int → List (List Int) → List Int → List Int → Int → Int → Int → Int → Int → Int → Option (Bool)
 | 0, _, _, _, _, _, _, _, _, _, _, _, _ => none
 | k + 1, x1, x2, x3, x4, x5, x6, x545000, x545001, x545002, x545003, x545004, x545005 => if x1 = 0 then (laws_FnConsistencyScaled.j2 k x1 x2 x3 x4 x5 x6 true x545000 x545001 x545002 x545003 x545004 x545005) else (if x1 ≥ x2 then (laws_FnConsistencyScaled.j2 k x1 x2 x3 x4 x5 x6 true x545000 x545001 x545002 x545003 x545004 x545005) else ((laws_scalable.f x2 x3).bind fun t546 => (if t546 = true then ((laws_logSmall.f k x4).bind fun t547 => (if t547 = true then (laws_FnConsistencyScaled.j2 k x1 x2 x3 x4 x5 x6 (decide ((x5.length : Int) > 5000)) x545000 x545001 x545002 x545003 x545004 x545005) else (laws_FnConsistencyScaled.j2 k x1 x2 x3 x4 x5 x6 true x545000 x545001 x545002 x545003 x545004 x545005))) else (laws_FnConsistencyScaled.j2 k x1 x2 x3 x4 x5 x6 true x545000 x545001 x545002 x545003 x545004 x545005))))
def laws_FnConsistencyScaled.j2 : Nat → Int → Int → Int → List (List Int) → List Int → List Int → Bool → Int → Int → Int → Int → Int → Int → Option (Bool)
 | 0, _, _, _, _, _, _, _, _, _, _, _, _, _ => none
 | k + 1, x1, x2, x3, x4, x5, x6, x58, x545000, x545001, x545002, x545003, x545004, x545005 => if x58 = true then (some true) else (laws_FnConsistencyScaled.j3 k x1 x2 x3 x4 x5 x6 x545000 x545001 x545002 x545003 x545004 x545005)
def laws_FnConsistencyScaled.j3 : Nat → Int → Int → Int → List (List Int) → List Int → List Int → Int → Int → Int → Int → Int → Int → Option (Bool)
 | 0, _, _, _, _, _, _, _, _, _, _, _, _ => none
 | k + 1, x1, x2, x3, x4, x5, x6, x545000, x545001, x545002, x545003, x545004, x545005 => (impl_Consistency.f k x1 x2).bind fun bt548 => (if 0 ≤ x3 then ((impl_Consistency.f k (shl .u64 x1 x3) (shl .u64 x2 x3)).bind fun bt557 => ((laws_raised.f k bt548.1 x3).bind fun t566 => ((impl_VerifyConsistency.f k x545000 x545001 x545002 x545003 x545004 x545005 x1 x2 x4 x5 x6).bind fun bt569 => ((impl_VerifyConsistency.f k x545000 x545001 x545002 x545003 x545004 x545005 (shl .u64 x1 x3) (shl .u64 x2 x3) x4 x5 x6).bind fun bt573 => (laws_FnConsistencyScaled.j4 k bt548.2.2.2.2.2 bt557.2.2.2.2.2 bt569.1 bt569.2 bt573.1 bt573.2 t566 (IntKind.u64.wrap (bt548.2.1 + (IntKind.u64.wrap (x3)))) bt548.2.2.1 bt548.2.2.2.1 bt548.2.2.2.2.1 bt557.1 bt557.2.1 bt557.2.2.1 bt557.2.2.2.1 bt557.2.2.2.2.1))))) else (none))
def laws_FnConsistencyScaled.j4 : Nat → Bool → Bool → Int → List Int → Int → List Int → List (S70) → Int → Int → Int → Int → List (S70) → Int → Int → Int → Int → Option (Bool)
 | 0, _, _, _, _, _, _, _, _, _, _, _, _, _, _, _, _ => none
 | k + 1, x16, x18, x19, x20, x21, x22, x557000, x557001, x557002, x557003, x557004, x566000, x566001, x566002, x566003, x566004 => if x16 = true then (if x18 = true then ((spec_SameProof.f k x557000 x557001 x557002 x557003 x557004 x566000 x566001 x566002 x566003 x566004).bind fun t577 => (if t577 = true then (if x19 = x21 then ((spec_SameText.f x20 x22).bind fun t578 => (some t578)) else (some false)) else (some false))) else (some false)) else (some false)
end
def laws_FnConsistencyScaled.f (k : Nat) (a0_0 : Int) (a0_1 : Int) (a0_2 : Int) (a0_3 : Int) (a0_4 : Int) (a0_5 : Int) (a1 : Int) (a2 : Int) (a3 : Int) (l4 : List (List Int)) (l5 : List Int) (l6 : List Int) : Option (Bool) := (laws_zzFits2.f k l4).bind fun t545 => (if t545 = true then (if (l5.length : Int) > 2147483647 then (laws_FnConsistencyScaled.j0 k a1 a2 a3 l4 l5 l6 true a0_0 a0_1 a0_2 a0_3 a0_4 a0_5) else (laws_FnConsistencyScaled.j0 k a1 a2 a3 l4 l5 l6 (decide ((l6.length : Int) > 2147483647)) a0_0 a0_1 a0_2 a0_3 a0_4 a0_5)) else (laws_FnConsistencyScaled.j0 k a1 a2 a3 l4 l5 l6 true a0_0 a0_1 a0_2 a0_3 a0_4 a0_5))
theorem laws_FnConsistencyScaled.mono_l : ∀ k, (∀ y0 y1 y2 y3 y4 y5 y6 y7 y8 y9 y10 y11 y12, LeO (laws_FnConsistencyScaled.j0 k y0 y1 y2 y3 y4 y5 y6 y7 y8 y9 y10 y11 y12) (laws_FnConsistencyScaled.j0 (k + 1) y0 y1 y2 y3 y4 y5 y6 y7 y8 y9 y10 y11 y12)) ∧ (∀ y0 y1 y2 y3 y4 y5 y6 y7 y8 y9 y10 y11, LeO (laws_FnConsistencyScaled.j1 k y0 y1 y2 y3 y4 y5 y6 y7 y8 y9 y10 y11) (laws_FnConsistencyScaled.j1 (k + 1) y0 y1 y2 y3 y4 y5 y6 y7 y8 y9 y10 y11)) ∧ (∀ y0 y1 y2 y3 y4 y5 y6 y7 y8 y9 y10 y11 y12, LeO (laws_FnConsistencyScaled.j2 k y0 y1 y2 y3 y4 y5 y6 y7 y8 y9 y10 y11 y12) (laws_FnConsistencyScaled.j2 (k + 1) y0 y1 y2 y3 y4 y5 y6 y7 y8 y9 y10 y11 y12)) ∧ (∀ y0 y1 y2 y3 y4 y5 y6 y7 y8 y9 y10 y11, LeO (laws_FnConsistencyScaled.j3 k y0 y1 y2 y3 y4 y5 y6 y7 y8 y9 y10 y11) (laws_FnConsistencyScaled.j3 (k + 1) y0 y1 y2 y3 y4 y5 y6 y7 y8 y9 y10 y11)) ∧ (∀ y0 y1 y2 y3 y4 y5 y6 y7 y8 y9 y10 y11 y12 y13 y14 y15, LeO (laws_FnConsistencyScaled.j4 k y0 y1 y2 y3 y4 y5 y6 y7 y8 y9 y10 y11 y12 y13 y14 y15) (laws_FnConsistencyScaled.j4 (k + 1) y0 y1 y2 y3 y4 y5 y6 y7 y8 y9 y10 y11 y12 y13 y14 y15))
 | 0 => ⟨fun _ _ _ _ _ _ _ _ _ _ _ _ _ r h => by simp [laws_FnConsistencyScaled.j0] at h, fun _ _ _ _ _ _ _ _ _ _ _ _ r h => by simp [laws_FnConsistencyScaled.j1] at h, fun _ _ _ _ _ _ _ _ _ _ _ _ _ r h => by simp [laws_FnConsistencyScaled.j2] at h, fun _ _ _ _ _ _ _ _ _ _ _ _ r h => by simp [laws_FnConsistencyScaled.j3] at h, fun _ _ _ _ _ _ _ _ _ _ _ _ _ _ _ _ r h => by simp [laws_FnConsistencyScaled.j4] at h⟩
 | k + 1 => by
  obtain ⟨ih0, ih1, ih2, ih3, ih4⟩ := laws_FnConsistencyScaled.mono_l k
  refine ⟨?_, ?_, ?_, ?_, ?_⟩
  ·intro y0 y1 y2 y3 y4 y5 y6 y7 y8 y9 y10 y11 y12
   unfold laws_FnConsistencyScaled.j0
   repeat' first
   | (with_reducible exact ih0 _ _ _ _ _ _ _ _ _ _ _ _ _)
   | (with_reducible exact ih1 _ _ _ _ _ _ _ _ _ _ _ _)
   | (with_reducible exact ih2 _ _ _ _ _ _ _ _ _ _ _ _ _)
   | (with_reducible exact ih3 _ _ _ _ _ _ _ _ _ _ _ _)
   | (with_reducible exact ih4 _ _ _ _ _ _ _ _ _ _ _ _ _ _ _ _)
   | (with_reducible exact impl_Consistency.mono _ _ _)
   | (with_reducible exact impl_VerifyConsistency.mono _ _ _ _ _ _ _ _ _ _ _ _)
   | (with_reducible exact laws_logSmall.mono _ _)
   | (with_reducible exact laws_raised.mono _ _ _)
   | (with_reducible exact laws_zzFits2.mono _ _)
   | (with_reducible exact spec_SameProof.mono _ _ _ _ _ _ _ _ _ _ _)
   | (with_reducible exact LeO.refl _)
   | (with_reducible exact LeO.none _)
   | (with_reducible refine LeO.ite ?_ ?_)
   | (with_reducible refine LeO.bind ?_ (fun _ => ?_))
   | exact ih0 _ _ _ _ _ _ _ _ _ _ _ _ _
   | exact ih1 _ _ _ _ _ _ _ _ _ _ _ _
   | exact ih2 _ _ _ _ _ _ _ _ _ _ _ _ _
   | exact ih3 _ _ _ _ _ _ _ _ _ _ _ _
   | exact ih4 _ _ _ _ _ _ _ _ _ _ _ _ _ _ _ _
   | exact impl_Consistency.mono _ _ _
   | exact impl_VerifyConsistency.mono _ _ _ _ _ _ _ _ _ _ _ _
   | exact laws_logSmall.mono _ _
   | exact laws_raised.mono _ _ _
   | exact laws_zzFits2.mono _ _
   | exact spec_SameProof.mono _ _ _ _ _ _ _ _ _ _ _
   | exact LeO.none _
   | refine LeO.ite ?_ ?_
   | refine LeO.bind ?_ (fun _ => ?_)
  ·intro y0 y1 y2 y3 y4 y5 y6 y7 y8 y9 y10 y11
   unfold laws_FnConsistencyScaled.j1
   repeat' first
   | (with_reducible exact ih0 _ _ _ _ _ _ _ _ _ _ _ _ _)
   | (with_reducible exact ih1 _ _ _ _ _ _ _ _ _ _ _ _)
   | (with_reducible exact ih2 _ _ _ _ _ _ _ _ _ _ _ _ _)
   | (with_reducible exact ih3 _ _ _ _ _ _ _ _ _ _ _ _)
   | (with_reducible exact ih4 _ _ _ _ _ _ _ _ _ _ _ _ _ _ _ _)
   | (with_reducible exact impl_Consistency.mono _ _ _)
   | (with_reducible exact impl_VerifyConsistency.mono _ _ _ _ _ _ _ _ _ _ _ _)
   | (with_reducible exact laws_logSmall.mono _ _)
   | (with_reducible exact laws_raised.mono _ _ _)
   | (with_reducible exact laws_zzFits2.mono _ _)
   | (with_reducible exact spec_SameProof.mono _ _ _ _ _ _ _ _ _ _ _)
   | (with_reducible exact LeO.refl _)
   | (with_reducible exact LeO.none _)
   | (with_reducible refine LeO.ite ?_ ?_)
   | (with_reducible refine LeO.bind ?_ (fun _ => ?_))
   | exact ih0 _ _ _ _ _ _ _ _ _ _ _ _ _
   | exact ih1 _ _ _ _ _ _ _ _ _ _ _ _
   | exact ih2 _ _ _ _ _ _ _ _ _ _ _ _ _
   | exact ih3 _ _ _ _ _ _ _ _ _ _ _ _
   | exact ih4 _ _ _ _ _ _ _ _ _ _ _ _ _ _ _ _
   | exact impl_Consistency.mono _ _ _
   | exact impl_VerifyConsistency.mono _ _ _ _ _ _ _ _ _ _ _ _
   | exact laws_logSmall.mono _ _
   | exact laws_raised.mono _ _ _
   | exact laws_zzFits2.mono _ _
   | exact spec_SameProof.mono _ _ _ _ _ _ _ _ _ _ _
   | exact LeO.none _
   | refine LeO.ite ?_ ?_
   | refine LeO.bind ?_ (fun _ => ?_)
  ·intro y0 y1 y2 y3 y4 y5 y6 y7 y8 y9 y10 y11 y12
   unfold laws_FnConsistencyScaled.j2
   repeat' first
   | (with_reducible exact ih0 _ _ _ _ _ _ _ _ _ _ _ _ _)
   | (with_reducible exact ih1 _ _ _ _ _ _ _ _ _ _ _ _)
   | (with_reducible exact ih2 _ _ _ _ _ _ _ _ _ _ _ _ _)
   | (with_reducible exact ih3 _ _ _ _ _ _ _ _ _ _ _ _)
   | (with_reducible exact ih4 _ _ _ _ _ _ _ _ _ _ _ _ _ _ _ _)
   | (with_reducible exact impl_Consistency.mono _ _ _)
   | (with_reducible exact impl_VerifyConsistency.mono _ _ _ _ _ _ _ _ _ _ _ _)
   | (with_reducible exact laws_logSmall.mono _ _)
   | (with_reducible exact laws_raised.mono _ _ _)
   | (with_reducible exact laws_zzFits2.mono _ _)
   | (with_reducible exact spec_SameProof.mono _ _ _ _ _ _ _ _ _ _ _)
   | (with_reducible exact LeO.refl _)
   | (with_reducible exact LeO.none _)
   | (with_reducible refine LeO.ite ?_ ?_)
   | (with_reducible refine LeO.bind ?_ (fun _ => ?_))
   | exact ih0 _ _ _ _ _ _ _ _ _ _ _ _ _
   | exact ih1 _ _ _ _ _ _ _ _ _ _ _ _
   | exact ih2 _ _ _ _ _ _ _ _ _ _ _ _ _
   | exact ih3 _ _ _ _ _ _ _ _ _ _ _ _
   | exact ih4 _ _ _ _ _ _ _ _ _ _ _ _ _ _ _ _
   | exact impl_Consistency.mono _ _ _
   | exact impl_VerifyConsistency.mono _ _ _ _ _ _ _ _ _ _ _ _
   | exact laws_logSmall.mono _ _
   | exact laws_raised.mono _ _ _
   | exact laws_zzFits2.mono _ _
   | exact spec_SameProof.mono _ _ _ _ _ _ _ _ _ _ _
   | exact LeO.none _
   | refine LeO.ite ?_ ?_
   | refine LeO.bind ?_ (fun _ => ?_)
  ·intro y0 y1 y2 y3 y4 y5 y6 y7 y8 y9 y10 y11
   unfold laws_FnConsistencyScaled.j3
   repeat' first
   | (with_reducible exact ih0 _ _ _ _ _ _ _ _ _ _ _ _ _)
   | (with_reducible exact ih1 _ _ _ _ _ _ _ _ _ _ _ _)
   | (with_reducible exact ih2 _ _ _ _ _ _ _ _ _ _ _ _ _)
   | (with_reducible exact ih3 _ _ _ _ _ _ _ _ _ _ _ _)
   | (with_reducible exact ih4 _ _ _ _ _ _ _ _ _ _ _ _ _ _ _ _)
   | (with_reducible exact impl_Consistency.mono _ _ _)
   | (with_reducible exact impl_VerifyConsistency.mono _ _ _ _ _ _ _ _ _ _ _ _)
   | (with_reducible exact laws_logSmall.mono _ _)
   | (with_reducible exact laws_raised.mono _ _ _)
   | (with_reducible exact laws_zzFits2.mono _ _)
   | (with_reducible exact spec_SameProof.mono _ _ _ _ _ _ _ _ _ _ _)
   | (with_reducible exact LeO.refl _)
   | (with_reducible exact LeO.none _)
   | (with_reducible refine LeO.ite ?_ ?_)
   | (with_reducible refine LeO.bind ?_ (fun _ => ?_))
   | exact ih0 _ _ _ _ _ _ _ _ _ _ _ _ _
   | exact ih1 _ _ _ _ _ _ _ _ _ _ _ _
   | exact ih2 _ _ _ _ _ _ _ _ _ _ _ _ _
   | exact ih3 _ _ _ _ _ _ _ _ _ _ _ _
   | exact ih4 _ _ _ _ _ _ _ _ _ _ _ _ _ _ _ _
   | exact impl_Consistency.mono _ _ _
   | exact impl_VerifyConsistency.mono _ _ _ _ _ _ _ _ _ _ _ _
   | exact laws_logSmall.mono _ _
   | exact laws_raised.mono _ _ _
   | exact laws_zzFits2.mono _ _
   | exact spec_SameProof.mono _ _ _ _ _ _ _ _ _ _ _
   | exact LeO.none _
   | refine LeO.ite ?_ ?_
   | refine LeO.bind ?_ (fun _ => ?_)
  intro y0 y1 y2 y3 y4 y5 y6 y7 y8 y9 y10 y11 y12 y13 y14 y15
  unfold laws_FnConsistencyScaled.j4
  repeat' first
  | (with_reducible exact ih0 _ _ _ _ _ _ _ _ _ _ _ _ _)
  | (with_reducible exact ih1 _ _ _ _ _ _ _ _ _ _ _ _)
  | (with_reducible exact ih2 _ _ _ _ _ _ _ _ _ _ _ _ _)
  | (with_reducible exact ih3 _ _ _ _ _ _ _ _ _ _ _ _)
  | (with_reducible exact ih4 _ _ _ _ _ _ _ _ _ _ _ _ _ _ _ _)
  | (with_reducible exact impl_Consistency.mono _ _ _)
  | (with_reducible exact impl_VerifyConsistency.mono _ _ _ _ _ _ _ _ _ _ _ _)
  | (with_reducible exact laws_logSmall.mono _ _)
  | (with_reducible exact laws_raised.mono _ _ _)
  | (with_reducible exact laws_zzFits2.mono _ _)
  | (with_reducible exact spec_SameProof.mono _ _ _ _ _ _ _ _ _ _ _)
  | (with_reducible exact LeO.refl _)
  | (with_reducible exact LeO.none _)
  | (with_reducible refine LeO.ite ?_ ?_)
  | (with_reducible refine LeO.bind ?_ (fun _ => ?_))
  | exact ih0 _ _ _ _ _ _ _ _ _ _ _ _ _
  | exact ih1 _ _ _ _ _ _ _ _ _ _ _ _
  | exact ih2 _ _ _ _ _ _ _ _ _ _ _ _ _
  | exact ih3 _ _ _ _ _ _ _ _ _ _ _ _
  | exact ih4 _ _ _ _ _ _ _ _ _ _ _ _ _ _ _ _
  | exact impl_Consistency.mono _ _ _
  | exact impl_VerifyConsistency.mono _ _ _ _ _ _ _ _ _ _ _ _
  | exact laws_logSmall.mono _ _
  | exact laws_raised.mono _ _ _
  | exact laws_zzFits2.mono _ _
  | exact spec_SameProof.mono _ _ _ _ _ _ _ _ _ _ _
  | exact LeO.none _
  | refine LeO.ite ?_ ?_
  | refine LeO.bind ?_ (fun _ => ?_)
theorem laws_FnConsistencyScaled.mono : ∀ a0 a1 a2 a3 a4 a5 a6 a7 a8 a9 a10 a11 k, LeO (laws_FnConsistencyScaled.f k a0 a1 a2 a3 a4 a5 a6 a7 a8 a9 a10 a11) (laws_FnConsistencyScaled.f (k + 1) a0 a1 a2 a3 a4 a5 a6 a7 a8 a9 a10 a11) := by
 intro a0 a1 a2 a3 a4 a5 a6 a7 a8 a9 a10 a11 k
 obtain ⟨ih0, ih1, ih2, ih3, ih4⟩ := laws_FnConsistencyScaled.mono_l k
 unfold laws_FnConsistencyScaled.f
 repeat' first
   | (with_reducible exact ih0 _ _ _ _ _ _ _ _ _ _ _ _ _)
   | (with_reducible exact ih1 _ _ _ _ _ _ _ _ _ _ _ _)
   | (with_reducible exact ih2 _ _ _ _ _ _ _ _ _ _ _ _ _)
   | (with_reducible exact ih3 _ _ _ _ _ _ _ _ _ _ _ _)
   | (with_reducible exact ih4 _ _ _ _ _ _ _ _ _ _ _ _ _ _ _ _)
   | (with_reducible exact impl_Consistency.mono _ _ _)
   | (with_reducible exact impl_VerifyConsistency.mono _ _ _ _ _ _ _ _ _ _ _ _)
   | (with_reducible exact laws_logSmall.mono _ _)
   | (with_reducible exact laws_raised.mono _ _ _)
   | (with_reducible exact laws_zzFits2.mono _ _)
   | (with_reducible exact spec_SameProof.mono _ _ _ _ _ _ _ _ _ _ _)
   | (with_reducible exact LeO.refl _)
   | (with_reducible exact LeO.none _)
   | (with_reducible refine LeO.ite ?_ ?_)
   | (with_reducible refine LeO.bind ?_ (fun _ => ?_))
   | exact ih0 _ _ _ _ _ _ _ _ _ _ _ _ _
   | exact ih1 _ _ _ _ _ _ _ _ _ _ _ _
   | exact ih2 _ _ _ _ _ _ _ _ _ _ _ _ _
   | exact ih3 _ _ _ _ _ _ _ _ _ _ _ _
   | exact ih4 _ _ _ _ _ _ _ _ _ _ _ _ _ _ _ _
   | exact impl_Consistency.mono _ _ _
   | exact impl_VerifyConsistency.mono _ _ _ _ _ _ _ _ _ _ _ _
   | exact laws_logSmall.mono _ _
   | exact laws_raised.mono _ _ _
   | exact laws_zzFits2.mono _ _
   | exact spec_SameProof.mono _ _ _ _ _ _ _ _ _ _ _
   | exact LeO.none _
   | refine LeO.ite ?_ ?_
   | refine LeO.bind ?_ (fun _ => ?_)
def laws_FnConsistencyScaled.T6 : Bool × List (List Nat × List Nat) := (true, [([], []), ([], []), ([0, 1], [0, 1]), ([], []), ([], []), ([3, 4], [3, 4]), ([2, 5], [2, 5]), ([6], [6]), ([7], [7]), ([7], [7]), ([], []), ([10, 8, 6, 0, 1, 2, 3, 4, 5, 6, 7, 8, 10], [8, 10]), ([9, 11, 0, 1, 2, 3, 4, 5, 6, 7, 8, 9, 10, 11], [9])])
def laws_FnConsistencyScaled.B6 : List Nat := [0, 0, 3, 0, 0, 24, 63, 127, 255, 255, 0, 1535, 4095]
theorem laws_FnConsistencyScaled.tab6 : rtab .any (opsOf Tryd.f12 6) = laws_FnConsistencyScaled.T6 := by kernel_rfl
theorem laws_FnConsistencyScaled.bits6 : waitsOk laws_FnConsistencyScaled.T6.2 laws_FnConsistencyScaled.B6 = true := by kernel_rfl
def laws_FnConsistencyScaled.T7 : Bool × List (List Nat × List Nat) := (true, [([], []), ([0], [0]), ([], []), ([1, 2], [1, 2]), ([], []), ([4], [4]), ([5], [5]), ([], []), ([7], [7]), ([6, 8], [6, 8]), ([0, 1, 2, 3, 4, 5, 6], []), ([10, 3, 3, 0, 1, 2, 3, 4, 5, 6], [3, 10]), ([0, 1, 2, 3, 4, 5, 6, 7, 8, 9, 10, 11], []), ([12, 0, 1, 2, 3, 4, 5, 6, 7, 8, 9, 10, 11], [12]), ([13, 9, 11, 0, 1, 2, 3, 4, 5, 6, 7, 8, 9, 10, 11], [9, 13])])
def laws_FnConsistencyScaled.B7 : List Nat := [0, 1, 0, 7, 0, 16, 48, 0, 128, 496, 127, 1151, 4095, 8191, 16383]
theorem laws_FnConsistencyScaled.tab7 : rtab .any (opsOf Tryd.f12 7) = laws_FnConsistencyScaled.T7 := by kernel_rfl
theorem laws_FnConsistencyScaled.bits7 : waitsOk laws_FnConsistencyScaled.T7.2 laws_FnConsistencyScaled.B7 = true := by kernel_rfl
def laws_FnConsistencyScaled.T9 : Bool × List (List Nat × List Nat) := (true, [([], []), ([], []), ([], []), ([1, 2], [1, 2]), ([], []), ([], []), ([4, 5], [4, 5]), ([], []), ([], []), ([], []), ([0, 3, 6, 7, 8, 9], [0, 3, 6, 7, 8, 9]), ([10], [10]), ([11], [11]), ([11], [11]), ([12, 10, 0, 1, 2, 3, 4, 5, 6, 7, 8, 9, 10, 11, 12], [12]), ([13, 14, 0, 1, 2, 3, 4, 5, 6, 7, 8, 9, 10, 11, 12, 13, 14], [13])])
def laws_FnConsistencyScaled.B9 : List Nat := [0, 0, 0, 6, 0, 0, 48, 0, 0, 0, 1023, 2047, 4095, 4095, 8191, 32767]
theorem laws_FnConsistencyScaled.tab9 : rtab .any (opsOf Tryd.f12 9) = laws_FnConsistencyScaled.T9 := by kernel_rfl
theorem laws_FnConsistencyScaled.bits9 : waitsOk laws_FnConsistencyScaled.T9.2 laws_FnConsistencyScaled.B9 = true := by kernel_rfl
end Go.Proofs.YtijldedhcjkhiaaDoor.Z
