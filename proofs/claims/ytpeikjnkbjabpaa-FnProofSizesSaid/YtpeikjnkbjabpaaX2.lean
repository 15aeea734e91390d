-- laid by xprint.py (a program of this session over the kit's print); Lean checks it
import Derived.Test.YtpeikjnkbjabpaaX0
import Derived.Test.YtpeikjnkbjabpaaX1
namespace Go.Proofs.Ytpeikjnkbjabpaa.X
open Go.RowKit Go.Proofs.YtpeikjnkbjabpaaW.PrintWords Go.Proofs.YtpeikjnkbjabpaaW.PrintLast Go.Proofs.YtpeikjnkbjabpaaW.PrintMore
attribute [local go_sem] max2_int min2_int max_two min_two max_three min_three max_four min_four   -- for this text's walks alone
set_option linter.unusedVariables false
set_option linter.unusedSimpArgs false

attribute [local go_sem high] eqA29
/-! ### compact_NewNodeID: function 25 -/
def compact_NewNodeID.f (a0 : Int) (a1 : Int) : Option (Int × Int) := some (a0, a1)
set_option maxHeartbeats 8000000 in
set_option maxRecDepth 100000 in
theorem compact_NewNodeID.calls (a0 : Int) (a1 : Int) (r1 : Int) (r2 : Int) (w : World) (h : compact_NewNodeID.f a0 a1 = some (r1, r2)) :
    Calls Try.prog 25 #[.int .u64 a0, .int .u64 a1] w fun e w' => e = .returned (.agg #[.int .u64 r1, .int .u64 r2]) ∧ Below w.heap.size w w' := by
  have hu48 := Try.underlying48
  have HB := Aside0.mk (Below.refl w.heap.size w)
  have H : (some (a0, a1)) = some (r1, r2) := h
  clear h
  simp only [Option.some.injEq, Prod.mk.injEq] at H
  obtain ⟨rfl, rfl⟩ := H
  go_enter Try.func25, Try.ntmps25
  go_wp2_with (first | ((with_reducible refine gate_dst (N := 4) rfl ?_); refine box_event ?hg (N := 4) ?hd (cs := #[.int .u64 0, .int .u64 0]) (t := 48) ?hr ?_; (case hd => rfl); (case hg => rfl); (case hr => first | (go_simp; done) | (go_simp; rfl)); intro gb101 hg w3 hbox hb; have n0_ := Aside0.mk (below_step (by repeat (first | (with_reducible first | exact HB.out | apply below_alloc | apply pw_below_drewN | apply below_drew1) | exact HB.out)) hb); have n1_ := Aside0.mk (hbox); have n2_ := Aside0.mk ((by rw [hg]; exact (below_size (by repeat (first | (with_reducible first | exact HB.out | apply below_alloc | apply pw_below_drewN | apply below_drew1) | exact HB.out))) : w.heap.size ≤ gb101)); have n3_ := Aside0.mk ((by rw [hg]; exact (below_size (by repeat (first | (with_reducible first | exact HB.out | apply below_alloc | apply pw_below_drewN | apply below_drew1) | exact HB.out))) : w.heap.size ≤ gb101)); clear HB; have HB := n0_; have BK101 := n1_; have GW101 := n2_; have GE101 := n3_; clear n0_ n1_ n2_ n3_; clear hb hbox hg; have hcz4_0 : w3.cell? ⟨gb101, 0, none⟩ = some (.int .u64 0) := (blk_cell BK101.out 0).trans rfl; have hcz4_1 : w3.cell? ⟨gb101, 1, none⟩ = some (.int .u64 0) := (blk_cell BK101.out 1).trans rfl; have hfz4_0 := blk_frozen BK101.out 0; have hfz4_1 := blk_frozen BK101.out 1))
  refine bodyPost_ret (results_cell_row rfl _ _ gb101 48 #[.int .u64 a0, .int .u64 a1] (0, 0) _ rfl (by (with_reducible repeat (first | refine blk_drewN ?_ _ | refine blk_drew ?_ | refine blk_alloc ?_ _)); refine blk_put (cs := #[.int .u64 a0, .int .u64 0]) ?_ 1 _ rfl; (with_reducible repeat (first | refine blk_drewN ?_ _ | refine blk_drew ?_ | refine blk_alloc ?_ _)); refine blk_put (cs := #[.int .u64 0, .int .u64 0]) ?_ 0 _ rfl; (with_reducible repeat (first | refine blk_drewN ?_ _ | refine blk_drew ?_ | refine blk_alloc ?_ _)); exact BK101.out) Try.underlying48 rfl (by kernel_rfl)) rfl ?_
  exact ⟨by first | rfl | (simp [errW_none, errW_some] <;> rfl) | (simp [*, errW_none, errW_some] <;> rfl), by repeat (first | (with_reducible first | exact HB.out | apply below_alloc | apply pw_below_drewN | apply below_drew1 | refine below_set ?_ GE101.out) | exact HB.out)⟩

/-! ### impl_toNode: function 19 -/
def impl_toNode.f (a0_0 : Int) (a0_1 : Int) : Option (Int × Int) := (compact_NewNodeID.f a0_0 a0_1).bind fun bt104 => (some (bt104.1, bt104.2))
set_option maxHeartbeats 8000000 in
set_option maxRecDepth 100000 in
theorem impl_toNode.calls (a0_0 : Int) (a0_1 : Int) (r1 : Int) (r2 : Int) (w : World) (h : impl_toNode.f a0_0 a0_1 = some (r1, r2)) :
    Calls Try.prog 19 #[.agg #[.int .u64 a0_0, .int .u64 a0_1]] w fun e w' => e = .returned (.agg #[.int .u64 r1, .int .u64 r2]) ∧ Below w.heap.size w w' := by
  have hu25 := Try.underlying25
  have hu48 := Try.underlying48
  have HB := Aside0.mk (Below.refl w.heap.size w)
  have H : ((compact_NewNodeID.f a0_0 a0_1).bind fun bt104 => (some (bt104.1, bt104.2))) = some (r1, r2) := h
  clear h
  replace H := Option.bind_eq_some_iff.mp H
  obtain ⟨⟨t104, t105⟩, A20, H⟩ := H
  replace H : (some (t104, t105)) = some (r1, r2) := H
  have A2 := Aside0.mk A20
  clear A20
  simp only [Option.some.injEq, Prod.mk.injEq] at H
  obtain ⟨rfl, rfl⟩ := H
  go_enter Try.func19, Try.ntmps19
  go_wp2_with (first | ((with_reducible refine gate_dst (N := 1) rfl ?_); refine box_event ?hg (N := 1) ?hd (cs := #[.int .u64 a0_0, .int .u64 a0_1]) (t := 25) ?hr ?_; (case hd => rfl); (case hg => rfl); (case hr => first | (go_simp; done) | (go_simp; rfl)); intro gb102 hg w3 hbox hb; have n0_ := Aside0.mk (below_step (by repeat (first | (with_reducible first | exact HB.out | apply below_alloc | apply pw_below_drewN | apply below_drew1) | exact HB.out)) hb); have n1_ := Aside0.mk (hbox); have n2_ := Aside0.mk ((by rw [hg]; exact (below_size (by repeat (first | (with_reducible first | exact HB.out | apply below_alloc | apply pw_below_drewN | apply below_drew1) | exact HB.out))) : w.heap.size ≤ gb102)); have n3_ := Aside0.mk ((by rw [hg]; exact (below_size (by repeat (first | (with_reducible first | exact HB.out | apply below_alloc | apply pw_below_drewN | apply below_drew1) | exact HB.out))) : w.heap.size ≤ gb102)); clear HB; have HB := n0_; have BK102 := n1_; have GW102 := n2_; have GE102 := n3_; clear n0_ n1_ n2_ n3_; clear hb hbox hg) | ((with_reducible refine gate_dst (N := 2) rfl ?_); refine box_event ?hg (N := 2) ?hd (cs := #[.int .u64 0, .int .u64 0]) (t := 48) ?hr ?_; (case hd => rfl); (case hg => rfl); (case hr => first | (go_simp; done) | (go_simp; rfl)); intro gb103 hg w4 hbox hb; have n0_ := Aside0.mk (blk_below (g := gb102) (o := .cells #[.int .u64 a0_0, .int .u64 a0_1] 25 (0, 0)) (by (with_reducible repeat (first | refine blk_drewN ?_ _ | refine blk_drew ?_ | refine blk_alloc ?_ _)); exact BK102.out) hb); have n1_ := Aside0.mk (below_step (by repeat (first | (with_reducible first | exact HB.out | apply below_alloc | apply pw_below_drewN | apply below_drew1 | refine below_set ?_ GE102.out) | exact HB.out)) hb); have n2_ := Aside0.mk (hbox); have n3_ := Aside0.mk ((by rw [hg]; exact (below_size (by repeat (first | (with_reducible first | exact HB.out | apply below_alloc | apply pw_below_drewN | apply below_drew1 | refine below_set ?_ GE102.out) | exact HB.out))) : w.heap.size ≤ gb103)); have n4_ := Aside0.mk ((by rw [hg]; exact (below_size (by repeat (first | (with_reducible first | exact HB.out | apply below_alloc | apply pw_below_drewN | apply below_drew1 | refine below_set ?_ GE102.out) | exact HB.out))) : w.heap.size ≤ gb103)); have n5_ := Aside0.mk ((by rw [hg]; exact Nat.ne_of_lt (blk_lt (g := gb102) (o := .cells #[.int .u64 a0_0, .int .u64 a0_1] 25 (0, 0)) (by (with_reducible repeat (first | refine blk_drewN ?_ _ | refine blk_drew ?_ | refine blk_alloc ?_ _)); exact BK102.out)) : gb102 ≠ gb103)); have n6_ := Aside0.mk ((by rw [hg]; exact Nat.ne_of_gt (blk_lt (g := gb102) (o := .cells #[.int .u64 a0_0, .int .u64 a0_1] 25 (0, 0)) (by (with_reducible repeat (first | refine blk_drewN ?_ _ | refine blk_drew ?_ | refine blk_alloc ?_ _)); exact BK102.out)) : gb103 ≠ gb102)); clear BK102; clear HB; have BK102 := n0_; have HB := n1_; have BK103 := n2_; have GW103 := n3_; have GE103 := n4_; have NB102_103 := n5_; have NB103_102 := n6_; clear n0_ n1_ n2_ n3_ n4_ n5_ n6_; clear hb hbox hg; have hnb5 := NB102_103.out; have hnc5 := NB103_102.out; have hcz6_0 : w4.cell? ⟨gb102, 0, none⟩ = some (.int .u64 a0_0) := (blk_cell BK102.out 0).trans rfl; have hcz6_1 : w4.cell? ⟨gb102, 1, none⟩ = some (.int .u64 a0_1) := (blk_cell BK102.out 1).trans rfl; have hfz6_0 := blk_frozen BK102.out 0; have hfz6_1 := blk_frozen BK102.out 1) | ((with_reducible refine gate_callee (f := 25) rfl ?_); refine goesL_ (some 7) rfl rfl Try.func25 (by kernel_rfl) rfl #[.int .u64 a0_0, .int .u64 a0_1] rfl (by (try simp only [List.map_toArray, List.map_cons, List.map_nil]); first | done | rfl | (simp only [List.length_drop, List.length_take]; rfl)) ?_; (with_reducible refine (compact_NewNodeID.calls a0_0 a0_1 t104 t105 _ A2.out).mono ?_); rintro e w7 ⟨rfl, hb⟩; refine ⟨_, rfl, ?_⟩; have n0_ := Aside0.mk (blk_below (g := gb102) (o := .cells #[.int .u64 a0_0, .int .u64 a0_1] 25 (0, 0)) (by (with_reducible repeat (first | refine blk_drewN ?_ _ | refine blk_drew ?_ | refine blk_alloc ?_ _)); exact BK102.out) hb); have n1_ := Aside0.mk (blk_below (g := gb103) (o := .cells #[.int .u64 0, .int .u64 0] 48 (0, 0)) (by (with_reducible repeat (first | refine blk_drewN ?_ _ | refine blk_drew ?_ | refine blk_alloc ?_ _)); exact BK103.out) hb); have n2_ := Aside0.mk (below_step (by repeat (first | (with_reducible first | exact HB.out | apply below_alloc | apply pw_below_drewN | apply below_drew1 | refine below_set ?_ GE102.out | refine below_set ?_ GE103.out) | exact HB.out)) hb); clear BK102; clear BK103; clear HB; have BK102 := n0_; have BK103 := n1_; have HB := n2_; clear n0_ n1_ n2_; (try clear hb); (try clear hb2); (try clear hk); (try clear hi); have hcz8_0 : w7.cell? ⟨gb103, 0, none⟩ = some (.int .u64 0) := (blk_cell BK103.out 0).trans rfl; have hcz8_1 : w7.cell? ⟨gb103, 1, none⟩ = some (.int .u64 0) := (blk_cell BK103.out 1).trans rfl; have hfz8_0 := blk_frozen BK103.out 0; have hfz8_1 := blk_frozen BK103.out 1))
  refine bodyPost_ret (results_cell_row rfl _ _ gb103 48 #[.int .u64 t104, .int .u64 t105] (0, 0) _ rfl (by (with_reducible repeat (first | refine blk_drewN ?_ _ | refine blk_drew ?_ | refine blk_alloc ?_ _)); refine blk_put (cs := #[.int .u64 t104, .int .u64 0]) ?_ 1 _ rfl; (with_reducible repeat (first | refine blk_drewN ?_ _ | refine blk_drew ?_ | refine blk_alloc ?_ _)); refine blk_put (cs := #[.int .u64 0, .int .u64 0]) ?_ 0 _ rfl; (with_reducible repeat (first | refine blk_drewN ?_ _ | refine blk_drew ?_ | refine blk_alloc ?_ _)); exact BK103.out) Try.underlying48 rfl (by kernel_rfl)) rfl ?_
  exact ⟨by first | rfl | (simp [errW_none, errW_some] <;> rfl) | (simp [*, errW_none, errW_some] <;> rfl), by repeat (first | (with_reducible first | exact HB.out | apply below_alloc | apply pw_below_drewN | apply below_drew1 | refine below_set ?_ GE102.out | refine below_set ?_ GE103.out) | exact HB.out)⟩

/-! ### compact_NodeID_Coverage: function 20 -/
def compact_NodeID_Coverage.f (a0_0 : Int) (a0_1 : Int) : Option (Int × Int) := if 0 ≤ a0_0 then (some (shl .u64 a0_1 a0_0, shl .u64 (IntKind.u64.wrap (a0_1 + 1)) a0_0)) else (none)
set_option maxHeartbeats 8000000 in
set_option maxRecDepth 100000 in
theorem compact_NodeID_Coverage.calls (a0_0 : Int) (a0_1 : Int) (r1 : Int) (r2 : Int) (w : World) (h : compact_NodeID_Coverage.f a0_0 a0_1 = some (r1, r2)) :
    Calls Try.prog 20 #[.agg #[.int .u64 a0_0, .int .u64 a0_1]] w fun e w' => e = .returned (.tuple #[.int .u64 r1, .int .u64 r2]) ∧ Below w.heap.size w w' := by
  have hu48 := Try.underlying48
  have HB := Aside0.mk (Below.refl w.heap.size w)
  have H : (if 0 ≤ a0_0 then (some (shl .u64 a0_1 a0_0, shl .u64 (IntKind.u64.wrap (a0_1 + 1)) a0_0)) else (none)) = some (r1, r2) := h
  clear h
  by_cases c2 : 0 ≤ a0_0
  · rw [if_pos c2] at H
    have c2b0 := eq_true c2
    have c2b1 : decide (0 ≤ a0_0) = true := decide_eq_true c2
    clear c2
    obtain ⟨ji3, hji3⟩ : ∃ j_ : Int, (shl .u64 a0_1 a0_0) = j_ := ⟨_, rfl⟩
    replace H : (some (ji3, shl .u64 (IntKind.u64.wrap (a0_1 + 1)) a0_0)) = some (r1, r2) := by first | (rw [hji3] at H; exact H) | (simp only [hji3] at H ⊢; exact H)
    have hji3_ : (IntKind.u64.wrap (a0_1 * 2 ^ min a0_0.toNat 64)) = ji3 := hji3
    have hji3z : a0_0 ≤ 64 → (IntKind.u64.wrap (a0_1 * 2 ^ a0_0.toNat)) = ji3 := shl_small hji3
    have c4b0 := eq_true (of_decide_eq_true (by first | (with_reducible assumption) | assumption) : 0 ≤ a0_0)
    obtain ⟨ji5, hji5⟩ : ∃ j_ : Int, (shl .u64 (IntKind.u64.wrap (a0_1 + 1)) a0_0) = j_ := ⟨_, rfl⟩
    replace H : (some (ji3, ji5)) = some (r1, r2) := by first | (rw [hji5] at H; exact H) | (simp only [hji5] at H ⊢; exact H)
    have hji5_ : (IntKind.u64.wrap ((IntKind.u64.wrap (a0_1 + 1)) * 2 ^ min a0_0.toNat 64)) = ji5 := hji5
    have hji5z : a0_0 ≤ 64 → (IntKind.u64.wrap ((IntKind.u64.wrap (a0_1 + 1)) * 2 ^ a0_0.toNat)) = ji5 := shl_small hji5
    simp only [Option.some.injEq, Prod.mk.injEq] at H
    obtain ⟨rfl, rfl⟩ := H
    go_enter Try.func20, Try.ntmps20
    go_wp2_with (first | ((with_reducible refine gate_dst (N := 1) rfl ?_); refine box_event ?hg (N := 1) ?hd (cs := #[.int .u64 a0_0, .int .u64 a0_1]) (t := 48) ?hr ?_; (case hd => rfl); (case hg => rfl); (case hr => first | (go_simp; done) | (go_simp; rfl)); intro gb106 hg w6 hbox hb; have n0_ := Aside0.mk (below_step (by repeat (first | (with_reducible first | exact HB.out | apply below_alloc | apply pw_below_drewN | apply below_drew1) | exact HB.out)) hb); have n1_ := Aside0.mk (hbox); have n2_ := Aside0.mk ((by rw [hg]; exact (below_size (by repeat (first | (with_reducible first | exact HB.out | apply below_alloc | apply pw_below_drewN | apply below_drew1) | exact HB.out))) : w.heap.size ≤ gb106)); have n3_ := Aside0.mk ((by rw [hg]; exact (below_size (by repeat (first | (with_reducible first | exact HB.out | apply below_alloc | apply pw_below_drewN | apply below_drew1) | exact HB.out))) : w.heap.size ≤ gb106)); clear HB; have HB := n0_; have BK106 := n1_; have GW106 := n2_; have GE106 := n3_; clear n0_ n1_ n2_ n3_; clear hb hbox hg; have hcz7_0 : w6.cell? ⟨gb106, 0, none⟩ = some (.int .u64 a0_0) := (blk_cell BK106.out 0).trans rfl; have hcz7_1 : w6.cell? ⟨gb106, 1, none⟩ = some (.int .u64 a0_1) := (blk_cell BK106.out 1).trans rfl; have hfz7_0 := blk_frozen BK106.out 0; have hfz7_1 := blk_frozen BK106.out 1))
    repeat (go_quiet (first | ((with_reducible refine gate_dst (N := 1) rfl ?_); refine box_event ?hg (N := 1) ?hd (cs := #[.int .u64 a0_0, .int .u64 a0_1]) (t := 48) ?hr ?_; (case hd => rfl); (case hg => rfl); (case hr => first | (go_simp; done) | (go_simp; rfl)); intro gb106 hg w6 hbox hb; have n0_ := Aside0.mk (below_step (by repeat (first | (with_reducible first | exact HB.out | apply below_alloc | apply pw_below_drewN | apply below_drew1) | exact HB.out)) hb); have n1_ := Aside0.mk (hbox); have n2_ := Aside0.mk ((by rw [hg]; exact (below_size (by repeat (first | (with_reducible first | exact HB.out | apply below_alloc | apply pw_below_drewN | apply below_drew1) | exact HB.out))) : w.heap.size ≤ gb106)); have n3_ := Aside0.mk ((by rw [hg]; exact (below_size (by repeat (first | (with_reducible first | exact HB.out | apply below_alloc | apply pw_below_drewN | apply below_drew1) | exact HB.out))) : w.heap.size ≤ gb106)); clear HB; have HB := n0_; have BK106 := n1_; have GW106 := n2_; have GE106 := n3_; clear n0_ n1_ n2_ n3_; clear hb hbox hg; have hcz7_0 : w6.cell? ⟨gb106, 0, none⟩ = some (.int .u64 a0_0) := (blk_cell BK106.out 0).trans rfl; have hcz7_1 : w6.cell? ⟨gb106, 1, none⟩ = some (.int .u64 a0_1) := (blk_cell BK106.out 1).trans rfl; have hfz7_0 := blk_frozen BK106.out 0; have hfz7_1 := blk_frozen BK106.out 1)); try go_wp2_with (first | ((with_reducible refine gate_dst (N := 1) rfl ?_); refine box_event ?hg (N := 1) ?hd (cs := #[.int .u64 a0_0, .int .u64 a0_1]) (t := 48) ?hr ?_; (case hd => rfl); (case hg => rfl); (case hr => first | (go_simp; done) | (go_simp; rfl)); intro gb106 hg w6 hbox hb; have n0_ := Aside0.mk (below_step (by repeat (first | (with_reducible first | exact HB.out | apply below_alloc | apply pw_below_drewN | apply below_drew1) | exact HB.out)) hb); have n1_ := Aside0.mk (hbox); have n2_ := Aside0.mk ((by rw [hg]; exact (below_size (by repeat (first | (with_reducible first | exact HB.out | apply below_alloc | apply pw_below_drewN | apply below_drew1) | exact HB.out))) : w.heap.size ≤ gb106)); have n3_ := Aside0.mk ((by rw [hg]; exact (below_size (by repeat (first | (with_reducible first | exact HB.out | apply below_alloc | apply pw_below_drewN | apply below_drew1) | exact HB.out))) : w.heap.size ≤ gb106)); clear HB; have HB := n0_; have BK106 := n1_; have GW106 := n2_; have GE106 := n3_; clear n0_ n1_ n2_ n3_; clear hb hbox hg; have hcz7_0 : w6.cell? ⟨gb106, 0, none⟩ = some (.int .u64 a0_0) := (blk_cell BK106.out 0).trans rfl; have hcz7_1 : w6.cell? ⟨gb106, 1, none⟩ = some (.int .u64 a0_1) := (blk_cell BK106.out 1).trans rfl; have hfz7_0 := blk_frozen BK106.out 0; have hfz7_1 := blk_frozen BK106.out 1)))
    go_ret2
    exact ⟨by first | rfl | (simp [errW_none, errW_some] <;> rfl) | (simp only [← hji3, ← hji5]; first | rfl | (simp [errW_none, errW_some] <;> rfl)) | (simp [*, errW_none, errW_some] <;> rfl), by repeat (first | (with_reducible first | exact HB.out | apply below_alloc | apply pw_below_drewN | apply below_drew1 | refine below_set ?_ GE106.out) | exact HB.out)⟩
  · rw [if_neg c2] at H
    exact absurd H (by simp)

/-! ### impl_Coverage: function 8 -/
def impl_Coverage.f (a0_0 : Int) (a0_1 : Int) : Option (Int × Int) := (impl_toNode.f a0_0 a0_1).bind fun bt108 => ((compact_NodeID_Coverage.f bt108.1 bt108.2).bind fun bt110 => (some (bt110.1, bt110.2)))
set_option maxHeartbeats 8000000 in
set_option maxRecDepth 100000 in
theorem impl_Coverage.calls (a0_0 : Int) (a0_1 : Int) (r1 : Int) (r2 : Int) (w : World) (h : impl_Coverage.f a0_0 a0_1 = some (r1, r2)) :
    Calls Try.prog 8 #[.agg #[.int .u64 a0_0, .int .u64 a0_1]] w fun e w' => e = .returned (.tuple #[.int .u64 r1, .int .u64 r2]) ∧ Below w.heap.size w w' := by
  have hu25 := Try.underlying25
  have HB := Aside0.mk (Below.refl w.heap.size w)
  have H : ((impl_toNode.f a0_0 a0_1).bind fun bt108 => ((compact_NodeID_Coverage.f bt108.1 bt108.2).bind fun bt110 => (some (bt110.1, bt110.2)))) = some (r1, r2) := h
  clear h
  replace H := Option.bind_eq_some_iff.mp H
  obtain ⟨⟨t108, t109⟩, A20, H⟩ := H
  replace H : ((compact_NodeID_Coverage.f t108 t109).bind fun bt110 => (some (bt110.1, bt110.2))) = some (r1, r2) := H
  have A2 := Aside0.mk A20
  clear A20
  replace H := Option.bind_eq_some_iff.mp H
  obtain ⟨⟨t110, t111⟩, A30, H⟩ := H
  replace H : (some (t110, t111)) = some (r1, r2) := H
  have A3 := Aside0.mk A30
  clear A30
  simp only [Option.some.injEq, Prod.mk.injEq] at H
  obtain ⟨rfl, rfl⟩ := H
  go_enter Try.func8, Try.ntmps8
  go_wp2_with (first | ((with_reducible refine gate_dst (N := 1) rfl ?_); refine box_event ?hg (N := 1) ?hd (cs := #[.int .u64 a0_0, .int .u64 a0_1]) (t := 25) ?hr ?_; (case hd => rfl); (case hg => rfl); (case hr => first | (go_simp; done) | (go_simp; rfl)); intro gb107 hg w4 hbox hb; have n0_ := Aside0.mk (below_step (by repeat (first | (with_reducible first | exact HB.out | apply below_alloc | apply pw_below_drewN | apply below_drew1) | exact HB.out)) hb); have n1_ := Aside0.mk (hbox); have n2_ := Aside0.mk ((by rw [hg]; exact (below_size (by repeat (first | (with_reducible first | exact HB.out | apply below_alloc | apply pw_below_drewN | apply below_drew1) | exact HB.out))) : w.heap.size ≤ gb107)); have n3_ := Aside0.mk ((by rw [hg]; exact (below_size (by repeat (first | (with_reducible first | exact HB.out | apply below_alloc | apply pw_below_drewN | apply below_drew1) | exact HB.out))) : w.heap.size ≤ gb107)); clear HB; have HB := n0_; have BK107 := n1_; have GW107 := n2_; have GE107 := n3_; clear n0_ n1_ n2_ n3_; clear hb hbox hg; have hcz5_0 : w4.cell? ⟨gb107, 0, none⟩ = some (.int .u64 a0_0) := (blk_cell BK107.out 0).trans rfl; have hcz5_1 : w4.cell? ⟨gb107, 1, none⟩ = some (.int .u64 a0_1) := (blk_cell BK107.out 1).trans rfl; have hfz5_0 := blk_frozen BK107.out 0; have hfz5_1 := blk_frozen BK107.out 1) | ((with_reducible refine gate_callee (f := 19) rfl ?_); refine goesL_ (some 5) rfl rfl Try.func19 (by kernel_rfl) rfl #[.agg #[.int .u64 a0_0, .int .u64 a0_1]] rfl (by (try simp only [List.map_toArray, List.map_cons, List.map_nil]); first | done | rfl | (simp only [List.length_drop, List.length_take]; rfl)) ?_; (with_reducible refine (impl_toNode.calls a0_0 a0_1 t108 t109 _ A2.out).mono ?_); rintro e w6 ⟨rfl, hb⟩; refine ⟨_, rfl, ?_⟩; have n0_ := Aside0.mk (blk_below (g := gb107) (o := .cells #[.int .u64 a0_0, .int .u64 a0_1] 25 (0, 0)) (by (with_reducible repeat (first | refine blk_drewN ?_ _ | refine blk_drew ?_ | refine blk_alloc ?_ _)); exact BK107.out) hb); have n1_ := Aside0.mk (below_step (by repeat (first | (with_reducible first | exact HB.out | apply below_alloc | apply pw_below_drewN | apply below_drew1 | refine below_set ?_ GE107.out) | exact HB.out)) hb); clear BK107; clear HB; have BK107 := n0_; have HB := n1_; clear n0_ n1_; (try clear hb); (try clear hb2); (try clear hk); (try clear hi)) | ((with_reducible refine gate_callee (f := 20) rfl ?_); refine goesL_ (some 6) rfl rfl Try.func20 (by kernel_rfl) rfl #[.agg #[.int .u64 t108, .int .u64 t109]] rfl (by (try simp only [List.map_toArray, List.map_cons, List.map_nil]); first | done | rfl | (simp only [List.length_drop, List.length_take]; rfl)) ?_; (with_reducible refine (compact_NodeID_Coverage.calls t108 t109 t110 t111 _ A3.out).mono ?_); rintro e w7 ⟨rfl, hb⟩; refine ⟨_, rfl, ?_⟩; have n0_ := Aside0.mk (blk_below (g := gb107) (o := .cells #[.int .u64 a0_0, .int .u64 a0_1] 25 (0, 0)) (by (with_reducible repeat (first | refine blk_drewN ?_ _ | refine blk_drew ?_ | refine blk_alloc ?_ _)); exact BK107.out) hb); have n1_ := Aside0.mk (below_step (by repeat (first | (with_reducible first | exact HB.out | apply below_alloc | apply pw_below_drewN | apply below_drew1 | refine below_set ?_ GE107.out) | exact HB.out)) hb); clear BK107; clear HB; have BK107 := n0_; have HB := n1_; clear n0_ n1_; (try clear hb); (try clear hb2); (try clear hk); (try clear hi)))
  go_ret2
  exact ⟨by first | rfl | (simp [errW_none, errW_some] <;> rfl) | (simp [*, errW_none, errW_some] <;> rfl), by repeat (first | (with_reducible first | exact HB.out | apply below_alloc | apply pw_below_drewN | apply below_drew1 | refine below_set ?_ GE107.out) | exact HB.out)⟩

/-! ### spec_Leaves: function 9 -/
def spec_Leaves.f (a0_0 : Int) (a0_1 : Int) : Option (Int × Int) := if 0 ≤ a0_0 then (some (shl .u64 a0_1 a0_0, shl .u64 (IntKind.u64.wrap (a0_1 + 1)) a0_0)) else (none)
set_option maxHeartbeats 8000000 in
set_option maxRecDepth 100000 in
theorem spec_Leaves.calls (a0_0 : Int) (a0_1 : Int) (r1 : Int) (r2 : Int) (w : World) (h : spec_Leaves.f a0_0 a0_1 = some (r1, r2)) :
    Calls Try.prog 9 #[.agg #[.int .u64 a0_0, .int .u64 a0_1]] w fun e w' => e = .returned (.agg #[.int .u64 r1, .int .u64 r2]) ∧ Below w.heap.size w w' := by
  have hu25 := Try.underlying25
  have hu29 := Try.underlying29
  have HB := Aside0.mk (Below.refl w.heap.size w)
  have H : (if 0 ≤ a0_0 then (some (shl .u64 a0_1 a0_0, shl .u64 (IntKind.u64.wrap (a0_1 + 1)) a0_0)) else (none)) = some (r1, r2) := h
  clear h
  by_cases c2 : 0 ≤ a0_0
  · rw [if_pos c2] at H
    have c2b0 := eq_true c2
    have c2b1 : decide (0 ≤ a0_0) = true := decide_eq_true c2
    clear c2
    obtain ⟨ji3, hji3⟩ : ∃ j_ : Int, (shl .u64 a0_1 a0_0) = j_ := ⟨_, rfl⟩
    replace H : (some (ji3, shl .u64 (IntKind.u64.wrap (a0_1 + 1)) a0_0)) = some (r1, r2) := by first | (rw [hji3] at H; exact H) | (simp only [hji3] at H ⊢; exact H)
    have hji3_ : (IntKind.u64.wrap (a0_1 * 2 ^ min a0_0.toNat 64)) = ji3 := hji3
    have hji3z : a0_0 ≤ 64 → (IntKind.u64.wrap (a0_1 * 2 ^ a0_0.toNat)) = ji3 := shl_small hji3
    have c4b0 := eq_true (of_decide_eq_true (by first | (with_reducible assumption) | assumption) : 0 ≤ a0_0)
    obtain ⟨ji5, hji5⟩ : ∃ j_ : Int, (shl .u64 (IntKind.u64.wrap (a0_1 + 1)) a0_0) = j_ := ⟨_, rfl⟩
    replace H : (some (ji3, ji5)) = some (r1, r2) := by first | (rw [hji5] at H; exact H) | (simp only [hji5] at H ⊢; exact H)
    have hji5_ : (IntKind.u64.wrap ((IntKind.u64.wrap (a0_1 + 1)) * 2 ^ min a0_0.toNat 64)) = ji5 := hji5
    have hji5z : a0_0 ≤ 64 → (IntKind.u64.wrap ((IntKind.u64.wrap (a0_1 + 1)) * 2 ^ a0_0.toNat)) = ji5 := shl_small hji5
    simp only [Option.some.injEq, Prod.mk.injEq] at H
    obtain ⟨rfl, rfl⟩ := H
    go_enter Try.func9, Try.ntmps9
    go_wp2_with (first | ((with_reducible refine gate_dst (N := 1) rfl ?_); refine box_event ?hg (N := 1) ?hd (cs := #[.int .u64 a0_0, .int .u64 a0_1]) (t := 25) ?hr ?_; (case hd => rfl); (case hg => rfl); (case hr => first | (go_simp; done) | (go_simp; rfl)); intro gb112 hg w6 hbox hb; have n0_ := Aside0.mk (below_step (by repeat (first | (with_reducible first | exact HB.out | apply below_alloc | apply pw_below_drewN | apply below_drew1) | exact HB.out)) hb); have n1_ := Aside0.mk (hbox); have n2_ := Aside0.mk ((by rw [hg]; exact (below_size (by repeat (first | (with_reducible first | exact HB.out | apply below_alloc | apply pw_below_drewN | apply below_drew1) | exact HB.out))) : w.heap.size ≤ gb112)); have n3_ := Aside0.mk ((by rw [hg]; exact (below_size (by repeat (first | (with_reducible first | exact HB.out | apply below_alloc | apply pw_below_drewN | apply below_drew1) | exact HB.out))) : w.heap.size ≤ gb112)); clear HB; have HB := n0_; have BK112 := n1_; have GW112 := n2_; have GE112 := n3_; clear n0_ n1_ n2_ n3_; clear hb hbox hg) | ((with_reducible refine gate_dst (N := 2) rfl ?_); refine box_event ?hg (N := 2) ?hd (cs := #[.int .u64 0, .int .u64 0]) (t := 29) ?hr ?_; (case hd => rfl); (case hg => rfl); (case hr => first | (go_simp; done) | (go_simp; rfl)); intro gb113 hg w7 hbox hb; have n0_ := Aside0.mk (blk_below (g := gb112) (o := .cells #[.int .u64 a0_0, .int .u64 a0_1] 25 (0, 0)) (by (with_reducible repeat (first | refine blk_drewN ?_ _ | refine blk_drew ?_ | refine blk_alloc ?_ _)); exact BK112.out) hb); have n1_ := Aside0.mk (below_step (by repeat (first | (with_reducible first | exact HB.out | apply below_alloc | apply pw_below_drewN | apply below_drew1 | refine below_set ?_ GE112.out) | exact HB.out)) hb); have n2_ := Aside0.mk (hbox); have n3_ := Aside0.mk ((by rw [hg]; exact (below_size (by repeat (first | (with_reducible first | exact HB.out | apply below_alloc | apply pw_below_drewN | apply below_drew1 | refine below_set ?_ GE112.out) | exact HB.out))) : w.heap.size ≤ gb113)); have n4_ := Aside0.mk ((by rw [hg]; exact (below_size (by repeat (first | (with_reducible first | exact HB.out | apply below_alloc | apply pw_below_drewN | apply below_drew1 | refine below_set ?_ GE112.out) | exact HB.out))) : w.heap.size ≤ gb113)); have n5_ := Aside0.mk ((by rw [hg]; exact Nat.ne_of_lt (blk_lt (g := gb112) (o := .cells #[.int .u64 a0_0, .int .u64 a0_1] 25 (0, 0)) (by (with_reducible repeat (first | refine blk_drewN ?_ _ | refine blk_drew ?_ | refine blk_alloc ?_ _)); exact BK112.out)) : gb112 ≠ gb113)); have n6_ := Aside0.mk ((by rw [hg]; exact Nat.ne_of_gt (blk_lt (g := gb112) (o := .cells #[.int .u64 a0_0, .int .u64 a0_1] 25 (0, 0)) (by (with_reducible repeat (first | refine blk_drewN ?_ _ | refine blk_drew ?_ | refine blk_alloc ?_ _)); exact BK112.out)) : gb113 ≠ gb112)); clear BK112; clear HB; have BK112 := n0_; have HB := n1_; have BK113 := n2_; have GW113 := n3_; have GE113 := n4_; have NB112_113 := n5_; have NB113_112 := n6_; clear n0_ n1_ n2_ n3_ n4_ n5_ n6_; clear hb hbox hg; have hnb8 := NB112_113.out; have hnc8 := NB113_112.out; have hcz9_0 : w7.cell? ⟨gb112, 0, none⟩ = some (.int .u64 a0_0) := (blk_cell BK112.out 0).trans rfl; have hcz9_1 : w7.cell? ⟨gb112, 1, none⟩ = some (.int .u64 a0_1) := (blk_cell BK112.out 1).trans rfl; have hfz9_0 := blk_frozen BK112.out 0; have hfz9_1 := blk_frozen BK112.out 1; have hcz10_0 : w7.cell? ⟨gb113, 0, none⟩ = some (.int .u64 0) := (blk_cell BK113.out 0).trans rfl; have hcz10_1 : w7.cell? ⟨gb113, 1, none⟩ = some (.int .u64 0) := (blk_cell BK113.out 1).trans rfl; have hfz10_0 := blk_frozen BK113.out 0; have hfz10_1 := blk_frozen BK113.out 1))
    refine bodyPost_ret (results_cell_row rfl _ _ gb113 29 #[.int .u64 ji3, .int .u64 ji5] (0, 0) _ rfl (by (with_reducible repeat (first | refine blk_drewN ?_ _ | refine blk_drew ?_ | refine blk_alloc ?_ _)); refine blk_put (cs := #[.int .u64 ji3, .int .u64 0]) ?_ 1 _ rfl; (with_reducible repeat (first | refine blk_drewN ?_ _ | refine blk_drew ?_ | refine blk_alloc ?_ _)); refine blk_put (cs := #[.int .u64 0, .int .u64 0]) ?_ 0 _ rfl; (with_reducible repeat (first | refine blk_drewN ?_ _ | refine blk_drew ?_ | refine blk_alloc ?_ _)); exact BK113.out) Try.underlying29 rfl (by kernel_rfl)) rfl ?_
    exact ⟨by first | rfl | (simp [errW_none, errW_some] <;> rfl) | (simp only [← hji3, ← hji5]; first | rfl | (simp [errW_none, errW_some] <;> rfl)) | (simp [*, errW_none, errW_some] <;> rfl), by repeat (first | (with_reducible first | exact HB.out | apply below_alloc | apply pw_below_drewN | apply below_drew1 | refine below_set ?_ GE112.out | refine below_set ?_ GE113.out) | exact HB.out)⟩
  · rw [if_neg c2] at H
    exact absurd H (by simp)

/-! ### laws_FnCoverage: function 3 -/
def laws_FnCoverage.f (a0_0 : Int) (a0_1 : Int) : Option (Bool) := (impl_Coverage.f a0_0 a0_1).bind fun bt115 => (if a0_0 ≥ 64 then (if bt115.1 = 0 then (some (bt115.2 == 0)) else (some false)) else ((spec_Leaves.f a0_0 a0_1).bind fun bt117 => (some (bt115.1 == bt117.1 && (bt115.2 == bt117.2)))))
set_option maxHeartbeats 8000000 in
set_option maxRecDepth 100000 in
theorem laws_FnCoverage.calls (a0_0 : Int) (a0_1 : Int) (r : Bool) (w : World) (h : laws_FnCoverage.f a0_0 a0_1 = some r) :
    Calls Try.prog 3 #[.agg #[.int .u64 a0_0, .int .u64 a0_1]] w fun e w' => e = .returned (.bool r) ∧ Below w.heap.size w w' := by
  have hu25 := Try.underlying25
  have hu29 := Try.underlying29
  have HB := Aside0.mk (Below.refl w.heap.size w)
  have H : ((impl_Coverage.f a0_0 a0_1).bind fun bt115 => (if a0_0 ≥ 64 then (if bt115.1 = 0 then (some (bt115.2 == 0)) else (some false)) else ((spec_Leaves.f a0_0 a0_1).bind fun bt117 => (some (bt115.1 == bt117.1 && (bt115.2 == bt117.2)))))) = some r := h
  clear h
  replace H := Option.bind_eq_some_iff.mp H
  obtain ⟨⟨t115, t116⟩, A20, H⟩ := H
  replace H : (if a0_0 ≥ 64 then (if t115 = 0 then (some (t116 == 0)) else (some false)) else ((spec_Leaves.f a0_0 a0_1).bind fun bt117 => (some (t115 == bt117.1 && (t116 == bt117.2))))) = some r := H
  have A2 := Aside0.mk A20
  clear A20
  by_cases c3 : a0_0 ≥ 64
  · rw [if_pos c3] at H
    have c3b0 : decide (64 ≤ a0_0) = true := decide_eq_true c3
    clear c3
    by_cases c4 : t115 = 0
    · rw [if_pos c4] at H
      have c4b0 : (t115 == 0) = true := beq_iff_eq.mpr c4
      have c4b1 : (t115 != 0) = false := bne_eq_false_iff_eq.mpr c4
      clear c4
      obtain rfl := Option.some.inj H
      go_enter Try.func3, Try.ntmps3
      go_wp2_with (first | ((with_reducible refine gate_dst (N := 1) rfl ?_); refine box_event ?hg (N := 1) ?hd (cs := #[.int .u64 a0_0, .int .u64 a0_1]) (t := 25) ?hr ?_; (case hd => rfl); (case hg => rfl); (case hr => first | (go_simp; done) | (go_simp; rfl)); intro gb114 hg w5 hbox hb; have n0_ := Aside0.mk (below_step (by repeat (first | (with_reducible first | exact HB.out | apply below_alloc | apply pw_below_drewN | apply below_drew1) | exact HB.out)) hb); have n1_ := Aside0.mk (hbox); have n2_ := Aside0.mk ((by rw [hg]; exact (below_size (by repeat (first | (with_reducible first | exact HB.out | apply below_alloc | apply pw_below_drewN | apply below_drew1) | exact HB.out))) : w.heap.size ≤ gb114)); have n3_ := Aside0.mk ((by rw [hg]; exact (below_size (by repeat (first | (with_reducible first | exact HB.out | apply below_alloc | apply pw_below_drewN | apply below_drew1) | exact HB.out))) : w.heap.size ≤ gb114)); clear HB; have HB := n0_; have BK114 := n1_; have GW114 := n2_; have GE114 := n3_; clear n0_ n1_ n2_ n3_; clear hb hbox hg; have hcz6_0 : w5.cell? ⟨gb114, 0, none⟩ = some (.int .u64 a0_0) := (blk_cell BK114.out 0).trans rfl; have hcz6_1 : w5.cell? ⟨gb114, 1, none⟩ = some (.int .u64 a0_1) := (blk_cell BK114.out 1).trans rfl; have hfz6_0 := blk_frozen BK114.out 0; have hfz6_1 := blk_frozen BK114.out 1) | ((with_reducible refine gate_callee (f := 8) rfl ?_); refine goesL_ (some 7) rfl rfl Try.func8 (by kernel_rfl) rfl #[.agg #[.int .u64 a0_0, .int .u64 a0_1]] rfl (by (try simp only [List.map_toArray, List.map_cons, List.map_nil]); first | done | rfl | (simp only [List.length_drop, List.length_take]; rfl)) ?_; (with_reducible refine (impl_Coverage.calls a0_0 a0_1 t115 t116 _ A2.out).mono ?_); rintro e w7 ⟨rfl, hb⟩; refine ⟨_, rfl, ?_⟩; have n0_ := Aside0.mk (blk_below (g := gb114) (o := .cells #[.int .u64 a0_0, .int .u64 a0_1] 25 (0, 0)) (by (with_reducible repeat (first | refine blk_drewN ?_ _ | refine blk_drew ?_ | refine blk_alloc ?_ _)); exact BK114.out) hb); have n1_ := Aside0.mk (below_step (by repeat (first | (with_reducible first | exact HB.out | apply below_alloc | apply pw_below_drewN | apply below_drew1 | refine below_set ?_ GE114.out) | exact HB.out)) hb); clear BK114; clear HB; have BK114 := n0_; have HB := n1_; clear n0_ n1_; (try clear hb); (try clear hb2); (try clear hk); (try clear hi); have hcz8_0 : w7.cell? ⟨gb114, 0, none⟩ = some (.int .u64 a0_0) := (blk_cell BK114.out 0).trans rfl; have hcz8_1 : w7.cell? ⟨gb114, 1, none⟩ = some (.int .u64 a0_1) := (blk_cell BK114.out 1).trans rfl; have hfz8_0 := blk_frozen BK114.out 0; have hfz8_1 := blk_frozen BK114.out 1))
      go_ret
      exact ⟨by first | rfl | (simp [errW_none, errW_some] <;> rfl) | (simp [*, errW_none, errW_some] <;> rfl), by repeat (first | (with_reducible first | exact HB.out | apply below_alloc | apply pw_below_drewN | apply below_drew1 | refine below_set ?_ GE114.out) | exact HB.out)⟩
    · rw [if_neg c4] at H
      have c4b0 : (t115 == 0) = false := beq_eq_false_iff_ne.mpr c4
      have c4b1 : (t115 != 0) = true := bne_iff_ne.mpr c4
      obtain rfl := Option.some.inj H
      go_enter Try.func3, Try.ntmps3
      go_wp2_with (first | ((with_reducible refine gate_dst (N := 1) rfl ?_); refine box_event ?hg (N := 1) ?hd (cs := #[.int .u64 a0_0, .int .u64 a0_1]) (t := 25) ?hr ?_; (case hd => rfl); (case hg => rfl); (case hr => first | (go_simp; done) | (go_simp; rfl)); intro gb114 hg w9 hbox hb; have n0_ := Aside0.mk (below_step (by repeat (first | (with_reducible first | exact HB.out | apply below_alloc | apply pw_below_drewN | apply below_drew1) | exact HB.out)) hb); have n1_ := Aside0.mk (hbox); have n2_ := Aside0.mk ((by rw [hg]; exact (below_size (by repeat (first | (with_reducible first | exact HB.out | apply below_alloc | apply pw_below_drewN | apply below_drew1) | exact HB.out))) : w.heap.size ≤ gb114)); have n3_ := Aside0.mk ((by rw [hg]; exact (below_size (by repeat (first | (with_reducible first | exact HB.out | apply below_alloc | apply pw_below_drewN | apply below_drew1) | exact HB.out))) : w.heap.size ≤ gb114)); clear HB; have HB := n0_; have BK114 := n1_; have GW114 := n2_; have GE114 := n3_; clear n0_ n1_ n2_ n3_; clear hb hbox hg; have hcz10_0 : w9.cell? ⟨gb114, 0, none⟩ = some (.int .u64 a0_0) := (blk_cell BK114.out 0).trans rfl; have hcz10_1 : w9.cell? ⟨gb114, 1, none⟩ = some (.int .u64 a0_1) := (blk_cell BK114.out 1).trans rfl; have hfz10_0 := blk_frozen BK114.out 0; have hfz10_1 := blk_frozen BK114.out 1) | ((with_reducible refine gate_callee (f := 8) rfl ?_); refine goesL_ (some 7) rfl rfl Try.func8 (by kernel_rfl) rfl #[.agg #[.int .u64 a0_0, .int .u64 a0_1]] rfl (by (try simp only [List.map_toArray, List.map_cons, List.map_nil]); first | done | rfl | (simp only [List.length_drop, List.length_take]; rfl)) ?_; (with_reducible refine (impl_Coverage.calls a0_0 a0_1 t115 t116 _ A2.out).mono ?_); rintro e w11 ⟨rfl, hb⟩; refine ⟨_, rfl, ?_⟩; have n0_ := Aside0.mk (blk_below (g := gb114) (o := .cells #[.int .u64 a0_0, .int .u64 a0_1] 25 (0, 0)) (by (with_reducible repeat (first | refine blk_drewN ?_ _ | refine blk_drew ?_ | refine blk_alloc ?_ _)); exact BK114.out) hb); have n1_ := Aside0.mk (below_step (by repeat (first | (with_reducible first | exact HB.out | apply below_alloc | apply pw_below_drewN | apply below_drew1 | refine below_set ?_ GE114.out) | exact HB.out)) hb); clear BK114; clear HB; have BK114 := n0_; have HB := n1_; clear n0_ n1_; (try clear hb); (try clear hb2); (try clear hk); (try clear hi); have hcz12_0 : w11.cell? ⟨gb114, 0, none⟩ = some (.int .u64 a0_0) := (blk_cell BK114.out 0).trans rfl; have hcz12_1 : w11.cell? ⟨gb114, 1, none⟩ = some (.int .u64 a0_1) := (blk_cell BK114.out 1).trans rfl; have hfz12_0 := blk_frozen BK114.out 0; have hfz12_1 := blk_frozen BK114.out 1))
      go_ret
      exact ⟨by first | rfl | (simp [errW_none, errW_some] <;> rfl) | (simp [*, errW_none, errW_some] <;> rfl), by repeat (first | (with_reducible first | exact HB.out | apply below_alloc | apply pw_below_drewN | apply below_drew1 | refine below_set ?_ GE114.out) | exact HB.out)⟩
  · rw [if_neg c3] at H
    have c3b0 : decide (64 ≤ a0_0) = false := decide_eq_false c3
    clear c3
    replace H := Option.bind_eq_some_iff.mp H
    obtain ⟨⟨t117, t118⟩, A130, H⟩ := H
    replace H : (some (t115 == t117 && (t116 == t118))) = some r := H
    have A13 := Aside0.mk A130
    clear A130
    obtain rfl := Option.some.inj H
    go_enter Try.func3, Try.ntmps3
    go_wp2_with (first | ((with_reducible refine gate_dst (N := 1) rfl ?_); refine box_event ?hg (N := 1) ?hd (cs := #[.int .u64 a0_0, .int .u64 a0_1]) (t := 25) ?hr ?_; (case hd => rfl); (case hg => rfl); (case hr => first | (go_simp; done) | (go_simp; rfl)); intro gb114 hg w14 hbox hb; have n0_ := Aside0.mk (below_step (by repeat (first | (with_reducible first | exact HB.out | apply below_alloc | apply pw_below_drewN | apply below_drew1) | exact HB.out)) hb); have n1_ := Aside0.mk (hbox); have n2_ := Aside0.mk ((by rw [hg]; exact (below_size (by repeat (first | (with_reducible first | exact HB.out | apply below_alloc | apply pw_below_drewN | apply below_drew1) | exact HB.out))) : w.heap.size ≤ gb114)); have n3_ := Aside0.mk ((by rw [hg]; exact (below_size (by repeat (first | (with_reducible first | exact HB.out | apply below_alloc | apply pw_below_drewN | apply below_drew1) | exact HB.out))) : w.heap.size ≤ gb114)); clear HB; have HB := n0_; have BK114 := n1_; have GW114 := n2_; have GE114 := n3_; clear n0_ n1_ n2_ n3_; clear hb hbox hg; have hcz15_0 : w14.cell? ⟨gb114, 0, none⟩ = some (.int .u64 a0_0) := (blk_cell BK114.out 0).trans rfl; have hcz15_1 : w14.cell? ⟨gb114, 1, none⟩ = some (.int .u64 a0_1) := (blk_cell BK114.out 1).trans rfl; have hfz15_0 := blk_frozen BK114.out 0; have hfz15_1 := blk_frozen BK114.out 1) | ((with_reducible refine gate_callee (f := 8) rfl ?_); refine goesL_ (some 7) rfl rfl Try.func8 (by kernel_rfl) rfl #[.agg #[.int .u64 a0_0, .int .u64 a0_1]] rfl (by (try simp only [List.map_toArray, List.map_cons, List.map_nil]); first | done | rfl | (simp only [List.length_drop, List.length_take]; rfl)) ?_; (with_reducible refine (impl_Coverage.calls a0_0 a0_1 t115 t116 _ A2.out).mono ?_); rintro e w16 ⟨rfl, hb⟩; refine ⟨_, rfl, ?_⟩; have n0_ := Aside0.mk (blk_below (g := gb114) (o := .cells #[.int .u64 a0_0, .int .u64 a0_1] 25 (0, 0)) (by (with_reducible repeat (first | refine blk_drewN ?_ _ | refine blk_drew ?_ | refine blk_alloc ?_ _)); exact BK114.out) hb); have n1_ := Aside0.mk (below_step (by repeat (first | (with_reducible first | exact HB.out | apply below_alloc | apply pw_below_drewN | apply below_drew1 | refine below_set ?_ GE114.out) | exact HB.out)) hb); clear BK114; clear HB; have BK114 := n0_; have HB := n1_; clear n0_ n1_; (try clear hb); (try clear hb2); (try clear hk); (try clear hi); have hcz17_0 : w16.cell? ⟨gb114, 0, none⟩ = some (.int .u64 a0_0) := (blk_cell BK114.out 0).trans rfl; have hcz17_1 : w16.cell? ⟨gb114, 1, none⟩ = some (.int .u64 a0_1) := (blk_cell BK114.out 1).trans rfl; have hfz17_0 := blk_frozen BK114.out 0; have hfz17_1 := blk_frozen BK114.out 1) | ((with_reducible refine gate_callee (f := 9) rfl ?_); refine goesL_ (some 23) rfl rfl Try.func9 (by kernel_rfl) rfl #[.agg #[.int .u64 a0_0, .int .u64 a0_1]] rfl (by (try simp only [List.map_toArray, List.map_cons, List.map_nil]); first | done | rfl | (simp only [List.length_drop, List.length_take]; rfl)) ?_; (with_reducible refine (spec_Leaves.calls a0_0 a0_1 t117 t118 _ A13.out).mono ?_); rintro e w18 ⟨rfl, hb⟩; refine ⟨_, rfl, ?_⟩; have n0_ := Aside0.mk (blk_below (g := gb114) (o := .cells #[.int .u64 a0_0, .int .u64 a0_1] 25 (0, 0)) (by (with_reducible repeat (first | refine blk_drewN ?_ _ | refine blk_drew ?_ | refine blk_alloc ?_ _)); exact BK114.out) hb); have n1_ := Aside0.mk (below_step (by repeat (first | (with_reducible first | exact HB.out | apply below_alloc | apply pw_below_drewN | apply below_drew1 | refine below_set ?_ GE114.out) | exact HB.out)) hb); clear BK114; clear HB; have BK114 := n0_; have HB := n1_; clear n0_ n1_; (try clear hb); (try clear hb2); (try clear hk); (try clear hi)))
    go_ret
    exact ⟨by first | rfl | (simp [errW_none, errW_some] <;> rfl) | (simp [*, errW_none, errW_some] <;> rfl), by repeat (first | (with_reducible first | exact HB.out | apply below_alloc | apply pw_below_drewN | apply below_drew1 | refine below_set ?_ GE114.out) | exact HB.out)⟩

/-! ### bits_Len64: function 26 (given) -/
def bits_Len64.f (a0 : Int) : Option (Int) := if 0 ≤ a0 then (if a0 ≤ 18446744073709551615 then (some ((Lib.bitLen a0.toNat : Nat) : Int)) else (none)) else (none)
theorem bits_Len64.w8 (c b : Nat) (h : b ≤ 8) (hc : c ≤ 56) : wrap64 ((c : Int) + wrap64 (b : Int)) = ((c + b : Nat) : Int) := by
  unfold wrap64
  omega
theorem bits_Len64.w0 (b : Nat) (h : b ≤ 8) : wrap64 (wrap64 (b : Int)) = (b : Int) := by
  unfold wrap64
  omega
theorem bits_Len64.fin56 (a0 : Int) (h0 : 0 ≤ a0) (h1 : a0 ≤ 18446744073709551615) (hA : 4294967296 ≤ a0) (hB : 65536 ≤ a0 / 4294967296) (hC : 256 ≤ a0 / 4294967296 / 65536) : 0 ≤ a0 / 4294967296 / 65536 / 256 ∧ a0 / 4294967296 / 65536 / 256 ≤ 255 ∧ wrap64 (56 + wrap64 (Lib.len8 (a0 / 4294967296 / 65536 / 256))) = ((Lib.bitLen a0.toNat : Nat) : Int) := by
  have p : 0 ≤ a0 / 4294967296 / 65536 / 256 := by omega
  have q : a0 / 4294967296 / 65536 / 256 ≤ 255 := by omega
  refine ⟨p, q, ?_⟩
  rw [Lib.len8_of (a0 / 4294967296 / 65536 / 256) p q]
  have e : (a0 / 4294967296 / 65536 / 256).toNat = a0.toNat / 72057594037927936 := by omega
  have l := Lib.bitLen_le8' (a0 / 4294967296 / 65536 / 256) p q
  have s := Lib.bitLen_shift56 a0.toNat (by omega) (by omega)
  rw [e] at l ⊢
  rw [s]
  exact bits_Len64.w8 56 _ l (by decide)
theorem bits_Len64.fin48 (a0 : Int) (h0 : 0 ≤ a0) (h1 : a0 ≤ 18446744073709551615) (hA : 4294967296 ≤ a0) (hB : 65536 ≤ a0 / 4294967296) (hC : 256 > a0 / 4294967296 / 65536) : 0 ≤ a0 / 4294967296 / 65536 ∧ a0 / 4294967296 / 65536 ≤ 255 ∧ wrap64 (48 + wrap64 (Lib.len8 (a0 / 4294967296 / 65536))) = ((Lib.bitLen a0.toNat : Nat) : Int) := by
  have p : 0 ≤ a0 / 4294967296 / 65536 := by omega
  have q : a0 / 4294967296 / 65536 ≤ 255 := by omega
  refine ⟨p, q, ?_⟩
  rw [Lib.len8_of (a0 / 4294967296 / 65536) p q]
  have e : (a0 / 4294967296 / 65536).toNat = a0.toNat / 281474976710656 := by omega
  have l := Lib.bitLen_le8' (a0 / 4294967296 / 65536) p q
  have s := Lib.bitLen_shift48 a0.toNat (by omega) (by omega)
  rw [e] at l ⊢
  rw [s]
  exact bits_Len64.w8 48 _ l (by decide)
theorem bits_Len64.fin40 (a0 : Int) (h0 : 0 ≤ a0) (h1 : a0 ≤ 18446744073709551615) (hA : 4294967296 ≤ a0) (hB : 65536 > a0 / 4294967296) (hC : 256 ≤ a0 / 4294967296) : 0 ≤ a0 / 4294967296 / 256 ∧ a0 / 4294967296 / 256 ≤ 255 ∧ wrap64 (40 + wrap64 (Lib.len8 (a0 / 4294967296 / 256))) = ((Lib.bitLen a0.toNat : Nat) : Int) := by
  have p : 0 ≤ a0 / 4294967296 / 256 := by omega
  have q : a0 / 4294967296 / 256 ≤ 255 := by omega
  refine ⟨p, q, ?_⟩
  rw [Lib.len8_of (a0 / 4294967296 / 256) p q]
  have e : (a0 / 4294967296 / 256).toNat = a0.toNat / 1099511627776 := by omega
  have l := Lib.bitLen_le8' (a0 / 4294967296 / 256) p q
  have s := Lib.bitLen_shift40 a0.toNat (by omega) (by omega)
  rw [e] at l ⊢
  rw [s]
  exact bits_Len64.w8 40 _ l (by decide)
theorem bits_Len64.fin32 (a0 : Int) (h0 : 0 ≤ a0) (h1 : a0 ≤ 18446744073709551615) (hA : 4294967296 ≤ a0) (hB : 65536 > a0 / 4294967296) (hC : 256 > a0 / 4294967296) : 0 ≤ a0 / 4294967296 ∧ a0 / 4294967296 ≤ 255 ∧ wrap64 (32 + wrap64 (Lib.len8 (a0 / 4294967296))) = ((Lib.bitLen a0.toNat : Nat) : Int) := by
  have p : 0 ≤ a0 / 4294967296 := by omega
  have q : a0 / 4294967296 ≤ 255 := by omega
  refine ⟨p, q, ?_⟩
  rw [Lib.len8_of (a0 / 4294967296) p q]
  have e : (a0 / 4294967296).toNat = a0.toNat / 4294967296 := by omega
  have l := Lib.bitLen_le8' (a0 / 4294967296) p q
  have s := Lib.bitLen_shift32 a0.toNat (by omega) (by omega)
  rw [e] at l ⊢
  rw [s]
  exact bits_Len64.w8 32 _ l (by decide)
theorem bits_Len64.fin24 (a0 : Int) (h0 : 0 ≤ a0) (h1 : a0 ≤ 18446744073709551615) (hA : 4294967296 > a0) (hB : 65536 ≤ a0) (hC : 256 ≤ a0 / 65536) : 0 ≤ a0 / 65536 / 256 ∧ a0 / 65536 / 256 ≤ 255 ∧ wrap64 (24 + wrap64 (Lib.len8 (a0 / 65536 / 256))) = ((Lib.bitLen a0.toNat : Nat) : Int) := by
  have p : 0 ≤ a0 / 65536 / 256 := by omega
  have q : a0 / 65536 / 256 ≤ 255 := by omega
  refine ⟨p, q, ?_⟩
  rw [Lib.len8_of (a0 / 65536 / 256) p q]
  have e : (a0 / 65536 / 256).toNat = a0.toNat / 16777216 := by omega
  have l := Lib.bitLen_le8' (a0 / 65536 / 256) p q
  have s := Lib.bitLen_shift24 a0.toNat (by omega) (by omega)
  rw [e] at l ⊢
  rw [s]
  exact bits_Len64.w8 24 _ l (by decide)
theorem bits_Len64.fin16 (a0 : Int) (h0 : 0 ≤ a0) (h1 : a0 ≤ 18446744073709551615) (hA : 4294967296 > a0) (hB : 65536 ≤ a0) (hC : 256 > a0 / 65536) : 0 ≤ a0 / 65536 ∧ a0 / 65536 ≤ 255 ∧ wrap64 (16 + wrap64 (Lib.len8 (a0 / 65536))) = ((Lib.bitLen a0.toNat : Nat) : Int) := by
  have p : 0 ≤ a0 / 65536 := by omega
  have q : a0 / 65536 ≤ 255 := by omega
  refine ⟨p, q, ?_⟩
  rw [Lib.len8_of (a0 / 65536) p q]
  have e : (a0 / 65536).toNat = a0.toNat / 65536 := by omega
  have l := Lib.bitLen_le8' (a0 / 65536) p q
  have s := Lib.bitLen_shift16 a0.toNat (by omega) (by omega)
  rw [e] at l ⊢
  rw [s]
  exact bits_Len64.w8 16 _ l (by decide)
theorem bits_Len64.fin8 (a0 : Int) (h0 : 0 ≤ a0) (h1 : a0 ≤ 18446744073709551615) (hA : 4294967296 > a0) (hB : 65536 > a0) (hC : 256 ≤ a0) : 0 ≤ a0 / 256 ∧ a0 / 256 ≤ 255 ∧ wrap64 (8 + wrap64 (Lib.len8 (a0 / 256))) = ((Lib.bitLen a0.toNat : Nat) : Int) := by
  have p : 0 ≤ a0 / 256 := by omega
  have q : a0 / 256 ≤ 255 := by omega
  refine ⟨p, q, ?_⟩
  rw [Lib.len8_of (a0 / 256) p q]
  have e : (a0 / 256).toNat = a0.toNat / 256 := by omega
  have l := Lib.bitLen_le8' (a0 / 256) p q
  have s := Lib.bitLen_shift8 a0.toNat (by omega) (by omega)
  rw [e] at l ⊢
  rw [s]
  exact bits_Len64.w8 8 _ l (by decide)
theorem bits_Len64.fin0 (a0 : Int) (h0 : 0 ≤ a0) (h1 : a0 ≤ 18446744073709551615) (hA : 4294967296 > a0) (hB : 65536 > a0) (hC : 256 > a0) : 0 ≤ a0 ∧ a0 ≤ 255 ∧ wrap64 (wrap64 (Lib.len8 (a0))) = ((Lib.bitLen a0.toNat : Nat) : Int) := by
  have p : 0 ≤ a0 := by omega
  have q : a0 ≤ 255 := by omega
  refine ⟨p, q, ?_⟩
  rw [Lib.len8_of (a0) p q]
  have e : (a0).toNat = a0.toNat := by omega
  have l := Lib.bitLen_le8' (a0) p q
  rw [e] at l ⊢
  exact bits_Len64.w0 _ l
set_option maxHeartbeats 8000000 in
set_option maxRecDepth 100000 in
theorem bits_Len64.calls (a0 : Int) (r : Int) (w : World) (h : bits_Len64.f a0 = some r) :
    Calls Try.prog 26 #[.int .u64 a0] w fun e w' => e = .returned (.int .i64 r) ∧ Drawn0 w w' := by
  have hh : (0 ≤ a0 ∧ a0 ≤ 18446744073709551615) ∧ r = ((Lib.bitLen a0.toNat : Nat) : Int) := by
    unfold bits_Len64.f at h
    by_cases h0 : 0 ≤ a0
    · rw [if_pos h0] at h
      by_cases h1 : a0 ≤ 18446744073709551615
      · rw [if_pos h1] at h
        exact ⟨⟨h0, h1⟩, (Option.some.inj h).symm⟩
      · rw [if_neg h1] at h
        exact absurd h (by simp)
    · rw [if_neg h0] at h
      exact absurd h (by simp)
  clear h
  obtain ⟨⟨h0, h1⟩, hr⟩ := hh
  subst hr
  by_cases hA : 4294967296 ≤ a0
  · by_cases hB : 65536 ≤ a0 / 4294967296
    · by_cases hC : 256 ≤ a0 / 4294967296 / 65536
      · obtain ⟨p, q, fin⟩ := bits_Len64.fin56 a0 h0 h1 hA hB hC
        have cA : decide (4294967296 ≤ a0) = true := decide_eq_true hA
        have cB : decide (65536 ≤ a0 / 4294967296) = true := decide_eq_true hB
        have cC : decide (256 ≤ a0 / 4294967296 / 65536) = true := decide_eq_true hC
        have FIN := Aside0.mk fin
        clear fin h0 h1 hA hB hC
        go_enter Try.func26, Try.ntmps26
        go_wp2
        go_ret
        exact ⟨congrArg Ending.returned (congrArg (Value.int IntKind.i64) FIN.out), Drawn0.refl _⟩
      · obtain ⟨p, q, fin⟩ := bits_Len64.fin48 a0 h0 h1 hA hB (Int.not_le.mp hC)
        have cA : decide (4294967296 ≤ a0) = true := decide_eq_true hA
        have cB : decide (65536 ≤ a0 / 4294967296) = true := decide_eq_true hB
        have cC : decide (256 ≤ a0 / 4294967296 / 65536) = false := decide_eq_false hC
        have FIN := Aside0.mk fin
        clear fin h0 h1 hA hB hC
        go_enter Try.func26, Try.ntmps26
        go_wp2
        go_ret
        exact ⟨congrArg Ending.returned (congrArg (Value.int IntKind.i64) FIN.out), Drawn0.refl _⟩
    · by_cases hC : 256 ≤ a0 / 4294967296
      · obtain ⟨p, q, fin⟩ := bits_Len64.fin40 a0 h0 h1 hA (Int.not_le.mp hB) hC
        have cA : decide (4294967296 ≤ a0) = true := decide_eq_true hA
        have cB : decide (65536 ≤ a0 / 4294967296) = false := decide_eq_false hB
        have cC : decide (256 ≤ a0 / 4294967296) = true := decide_eq_true hC
        have FIN := Aside0.mk fin
        clear fin h0 h1 hA hB hC
        go_enter Try.func26, Try.ntmps26
        go_wp2
        go_ret
        exact ⟨congrArg Ending.returned (congrArg (Value.int IntKind.i64) FIN.out), Drawn0.refl _⟩
      · obtain ⟨p, q, fin⟩ := bits_Len64.fin32 a0 h0 h1 hA (Int.not_le.mp hB) (Int.not_le.mp hC)
        have cA : decide (4294967296 ≤ a0) = true := decide_eq_true hA
        have cB : decide (65536 ≤ a0 / 4294967296) = false := decide_eq_false hB
        have cC : decide (256 ≤ a0 / 4294967296) = false := decide_eq_false hC
        have FIN := Aside0.mk fin
        clear fin h0 h1 hA hB hC
        go_enter Try.func26, Try.ntmps26
        go_wp2
        go_ret
        exact ⟨congrArg Ending.returned (congrArg (Value.int IntKind.i64) FIN.out), Drawn0.refl _⟩
  · by_cases hB : 65536 ≤ a0
    · by_cases hC : 256 ≤ a0 / 65536
      · obtain ⟨p, q, fin⟩ := bits_Len64.fin24 a0 h0 h1 (Int.not_le.mp hA) hB hC
        have cA : decide (4294967296 ≤ a0) = false := decide_eq_false hA
        have cB : decide (65536 ≤ a0) = true := decide_eq_true hB
        have cC : decide (256 ≤ a0 / 65536) = true := decide_eq_true hC
        have FIN := Aside0.mk fin
        clear fin h0 h1 hA hB hC
        go_enter Try.func26, Try.ntmps26
        go_wp2
        go_ret
        exact ⟨congrArg Ending.returned (congrArg (Value.int IntKind.i64) FIN.out), Drawn0.refl _⟩
      · obtain ⟨p, q, fin⟩ := bits_Len64.fin16 a0 h0 h1 (Int.not_le.mp hA) hB (Int.not_le.mp hC)
        have cA : decide (4294967296 ≤ a0) = false := decide_eq_false hA
        have cB : decide (65536 ≤ a0) = true := decide_eq_true hB
        have cC : decide (256 ≤ a0 / 65536) = false := decide_eq_false hC
        have FIN := Aside0.mk fin
        clear fin h0 h1 hA hB hC
        go_enter Try.func26, Try.ntmps26
        go_wp2
        go_ret
        exact ⟨congrArg Ending.returned (congrArg (Value.int IntKind.i64) FIN.out), Drawn0.refl _⟩
    · by_cases hC : 256 ≤ a0
      · obtain ⟨p, q, fin⟩ := bits_Len64.fin8 a0 h0 h1 (Int.not_le.mp hA) (Int.not_le.mp hB) hC
        have cA : decide (4294967296 ≤ a0) = false := decide_eq_false hA
        have cB : decide (65536 ≤ a0) = false := decide_eq_false hB
        have cC : decide (256 ≤ a0) = true := decide_eq_true hC
        have FIN := Aside0.mk fin
        clear fin h0 h1 hA hB hC
        go_enter Try.func26, Try.ntmps26
        go_wp2
        go_ret
        exact ⟨congrArg Ending.returned (congrArg (Value.int IntKind.i64) FIN.out), Drawn0.refl _⟩
      · obtain ⟨p, q, fin⟩ := bits_Len64.fin0 a0 h0 h1 (Int.not_le.mp hA) (Int.not_le.mp hB) (Int.not_le.mp hC)
        have cA : decide (4294967296 ≤ a0) = false := decide_eq_false hA
        have cB : decide (65536 ≤ a0) = false := decide_eq_false hB
        have cC : decide (256 ≤ a0) = false := decide_eq_false hC
        have FIN := Aside0.mk fin
        clear fin h0 h1 hA hB hC
        go_enter Try.func26, Try.ntmps26
        go_wp2
        go_ret
        exact ⟨congrArg Ending.returned (congrArg (Value.int IntKind.i64) FIN.out), Drawn0.refl _⟩

/-! ### compact_Decompose: function 21 -/
def compact_Decompose.f (a0 : Int) (a1 : Int) : Option (Int × Int) := if a0 = 0 then (some (0, a1)) else ((bits_Len64.f (Go.bits .xor .u64 (IntKind.u64.wrap (a0 - 1)) a1)).bind fun t119 => (if 0 ≤ (IntKind.u64.wrap (wrap64 (t119 - 1))) then (some (Go.bits .and .u64 (Go.bits .xor .u64 18446744073709551615 (IntKind.u64.wrap (a0 - 1))) (IntKind.u64.wrap ((shl .u64 1 (IntKind.u64.wrap (wrap64 (t119 - 1)))) - 1)), Go.bits .and .u64 a1 (IntKind.u64.wrap ((shl .u64 1 (IntKind.u64.wrap (wrap64 (t119 - 1)))) - 1)))) else (none)))
set_option maxHeartbeats 8000000 in
set_option maxRecDepth 100000 in
theorem compact_Decompose.calls (a0 : Int) (a1 : Int) (r1 : Int) (r2 : Int) (w : World) (h : compact_Decompose.f a0 a1 = some (r1, r2)) :
    Calls Try.prog 21 #[.int .u64 a0, .int .u64 a1] w fun e w' => e = .returned (.tuple #[.int .u64 r1, .int .u64 r2]) ∧ Drawn0 w w' := by
  have H : (if a0 = 0 then (some (0, a1)) else ((bits_Len64.f (Go.bits .xor .u64 (IntKind.u64.wrap (a0 - 1)) a1)).bind fun t119 => (if 0 ≤ (IntKind.u64.wrap (wrap64 (t119 - 1))) then (some (Go.bits .and .u64 (Go.bits .xor .u64 18446744073709551615 (IntKind.u64.wrap (a0 - 1))) (IntKind.u64.wrap ((shl .u64 1 (IntKind.u64.wrap (wrap64 (t119 - 1)))) - 1)), Go.bits .and .u64 a1 (IntKind.u64.wrap ((shl .u64 1 (IntKind.u64.wrap (wrap64 (t119 - 1)))) - 1)))) else (none)))) = some (r1, r2) := h
  clear h
  by_cases c3 : a0 = 0
  · rw [if_pos c3] at H
    have c3b0 : (a0 == 0) = true := beq_iff_eq.mpr c3
    have c3b1 : (a0 != 0) = false := bne_eq_false_iff_eq.mpr c3
    clear c3
    simp only [Option.some.injEq, Prod.mk.injEq] at H
    obtain ⟨rfl, rfl⟩ := H
    go_enter Try.func21, Try.ntmps21
    go_wp2
    go_ret2
    exact ⟨by first | rfl | (simp; done) | (simp [*]; done), by repeat (first | exact Drawn0.refl _ | apply Drawn0.step)⟩
  · rw [if_neg c3] at H
    have c3b0 : (a0 == 0) = false := beq_eq_false_iff_ne.mpr c3
    have c3b1 : (a0 != 0) = true := bne_iff_ne.mpr c3
    replace H := Option.bind_eq_some_iff.mp H
    obtain ⟨t119, A40, H⟩ := H
    replace H : (if 0 ≤ (IntKind.u64.wrap (wrap64 (t119 - 1))) then (some (Go.bits .and .u64 (Go.bits .xor .u64 18446744073709551615 (IntKind.u64.wrap (a0 - 1))) (IntKind.u64.wrap ((shl .u64 1 (IntKind.u64.wrap (wrap64 (t119 - 1)))) - 1)), Go.bits .and .u64 a1 (IntKind.u64.wrap ((shl .u64 1 (IntKind.u64.wrap (wrap64 (t119 - 1)))) - 1)))) else (none)) = some (r1, r2) := H
    have A4 := Aside0.mk A40
    clear A40
    obtain ⟨ji5, hji5⟩ : ∃ j_ : Int, (IntKind.u64.wrap (wrap64 (t119 - 1))) = j_ := ⟨_, rfl⟩
    replace H : (if 0 ≤ (ji5) then (some (Go.bits .and .u64 (Go.bits .xor .u64 18446744073709551615 (IntKind.u64.wrap (a0 - 1))) (IntKind.u64.wrap ((shl .u64 1 (ji5)) - 1)), Go.bits .and .u64 a1 (IntKind.u64.wrap ((shl .u64 1 (ji5)) - 1)))) else (none)) = some (r1, r2) := by first | (rw [hji5] at H; exact H) | (simp only [hji5] at H ⊢; exact H)
    (try rw [hji5] at A4)
    by_cases c6 : 0 ≤ (ji5)
    · rw [if_pos c6] at H
      have c6b0 := eq_true c6
      have c6b1 : decide (0 ≤ (ji5)) = true := decide_eq_true c6
      clear c6
      obtain ⟨ji7, hji7⟩ : ∃ j_ : Int, (shl .u64 1 (ji5)) = j_ := ⟨_, rfl⟩
      replace H : (some (Go.bits .and .u64 (Go.bits .xor .u64 18446744073709551615 (IntKind.u64.wrap (a0 - 1))) (IntKind.u64.wrap ((ji7) - 1)), Go.bits .and .u64 a1 (IntKind.u64.wrap ((ji7) - 1)))) = some (r1, r2) := by first | (rw [hji7] at H; exact H) | (simp only [hji7] at H ⊢; exact H)
      (try rw [hji7] at A4)
      have hji7_ : (IntKind.u64.wrap (1 * 2 ^ min (ji5).toNat 64)) = ji7 := hji7
      have hji7z : (ji5) ≤ 64 → (IntKind.u64.wrap (1 * 2 ^ (ji5).toNat)) = ji7 := shl_small hji7
      have hji7u : (IntKind.u64.wrap (2 ^ min (ji5).toNat 64)) = ji7 := by have h_ := hji7_; rw [Int.one_mul] at h_; exact h_
      have hji7v : (ji5) ≤ 64 → (IntKind.u64.wrap (2 ^ (ji5).toNat)) = ji7 := fun hle_ => by have h_ := hji7z hle_; rw [Int.one_mul] at h_; exact h_
      simp only [Option.some.injEq, Prod.mk.injEq] at H
      obtain ⟨rfl, rfl⟩ := H
      go_enter Try.func21, Try.ntmps21
      go_wp2_with (first | ((with_reducible refine gate_callee (f := 26) rfl ?_); refine goesL_ (some 17) rfl rfl Try.func26 (by kernel_rfl) rfl #[.int .u64 (Go.bits .xor .u64 (IntKind.u64.wrap (a0 - 1)) a1)] rfl (by (try simp only [List.map_toArray, List.map_cons, List.map_nil]); first | done | rfl | (simp only [List.length_drop, List.length_take]; rfl)) ?_; (with_reducible refine (bits_Len64.calls (Go.bits .xor .u64 (IntKind.u64.wrap (a0 - 1)) a1) t119 _ A4.out).mono ?_); rintro e w' ⟨rfl, ⟨nd, rfl⟩⟩; refine ⟨_, rfl, ?_⟩))
      go_ret2
      exact ⟨by first | rfl | (simp; done) | (simp only [← hji5, ← hji7] <;> (first | rfl | simp)) | (simp [*]; done), by repeat (first | exact Drawn0.refl _ | apply Drawn0.step)⟩
    · rw [if_neg c6] at H
      exact absurd H (by simp)

/-! ### impl_Decompose: function 10 -/
def impl_Decompose.f (a0 : Int) (a1 : Int) : Option (Int × Int) := (compact_Decompose.f a0 a1).bind fun bt120 => (some (bt120.1, bt120.2))
set_option maxHeartbeats 8000000 in
set_option maxRecDepth 100000 in
theorem impl_Decompose.calls (a0 : Int) (a1 : Int) (r1 : Int) (r2 : Int) (w : World) (h : impl_Decompose.f a0 a1 = some (r1, r2)) :
    Calls Try.prog 10 #[.int .u64 a0, .int .u64 a1] w fun e w' => e = .returned (.tuple #[.int .u64 r1, .int .u64 r2]) ∧ Drawn0 w w' := by
  have H : ((compact_Decompose.f a0 a1).bind fun bt120 => (some (bt120.1, bt120.2))) = some (r1, r2) := h
  clear h
  replace H := Option.bind_eq_some_iff.mp H
  obtain ⟨⟨t120, t121⟩, A30, H⟩ := H
  replace H : (some (t120, t121)) = some (r1, r2) := H
  have A3 := Aside0.mk A30
  clear A30
  simp only [Option.some.injEq, Prod.mk.injEq] at H
  obtain ⟨rfl, rfl⟩ := H
  go_enter Try.func10, Try.ntmps10
  go_wp2_with (first | ((with_reducible refine gate_callee (f := 21) rfl ?_); refine goesL_ (some 8) rfl rfl Try.func21 (by kernel_rfl) rfl #[.int .u64 a0, .int .u64 a1] rfl (by (try simp only [List.map_toArray, List.map_cons, List.map_nil]); first | done | rfl | (simp only [List.length_drop, List.length_take]; rfl)) ?_; (with_reducible refine (compact_Decompose.calls a0 a1 t120 t121 _ A3.out).mono ?_); rintro e w' ⟨rfl, ⟨nd, rfl⟩⟩; refine ⟨_, rfl, ?_⟩))
  go_ret2
  exact ⟨by first | rfl | (simp; done) | (simp [*]; done), by repeat (first | exact Drawn0.refl _ | apply Drawn0.step)⟩

/-! ### spec_Sizes: function 11 -/
mutual
def spec_Sizes.l0 : Nat → Int → Int → List Int → Int → Option (List Int)
  | 0, _, _, _, _ => none
  | k + 1, x0, x1, x5, x6 => if x6 < 64 then (if 0 ≤ x6 then (if (Go.bits .and .u64 (shr .u64 x0 x6) 1) = 1 then (if x5.length < 17592186044416 then (spec_Sizes.l0 k x0 x1 (x5 ++ [shl .u64 1 x6]) (wrap64 (x6 + 1))) else (none)) else (spec_Sizes.l0 k x0 x1 x5 (wrap64 (x6 + 1)))) else (none)) else (spec_Sizes.l1 k x1 x5 63)
def spec_Sizes.l1 : Nat → Int → List Int → Int → Option (List Int)
  | 0, _, _, _ => none
  | k + 1, x1, x5, x7 => if x7 ≥ 0 then (if 0 ≤ x7 then (if (Go.bits .and .u64 (shr .u64 x1 x7) 1) = 1 then (if x5.length < 17592186044416 then (spec_Sizes.l1 k x1 (x5 ++ [shl .u64 1 x7]) (wrap64 (x7 - 1))) else (none)) else (spec_Sizes.l1 k x1 x5 (wrap64 (x7 - 1)))) else (none)) else (some x5)
end
def spec_Sizes.f (k : Nat) (a0 : Int) (a1 : Int) : Option (List Int) := spec_Sizes.l0 k a0 a1 ([] : List Int) 0
theorem spec_Sizes.mono_l : ∀ k, (∀ y0 y1 y2 y3, LeO (spec_Sizes.l0 k y0 y1 y2 y3) (spec_Sizes.l0 (k + 1) y0 y1 y2 y3)) ∧ (∀ y0 y1 y2, LeO (spec_Sizes.l1 k y0 y1 y2) (spec_Sizes.l1 (k + 1) y0 y1 y2))
  | 0 => ⟨fun _ _ _ _ r h => by simp [spec_Sizes.l0] at h, fun _ _ _ r h => by simp [spec_Sizes.l1] at h⟩
  | k + 1 => by
    obtain ⟨ih0, ih1⟩ := spec_Sizes.mono_l k
    refine ⟨?_, ?_⟩
    · intro y0 y1 y2 y3
      unfold spec_Sizes.l0
      repeat' first
      | (with_reducible exact ih0 _ _ _ _)
      | (with_reducible exact ih1 _ _ _)
      | (with_reducible exact LeO.refl _)
      | (with_reducible exact LeO.none _)
      | (with_reducible refine LeO.ite ?_ ?_)
      | (with_reducible refine LeO.bind ?_ (fun _ => ?_))
      | exact ih0 _ _ _ _
      | exact ih1 _ _ _
      | exact LeO.none _
      | refine LeO.ite ?_ ?_
      | refine LeO.bind ?_ (fun _ => ?_)
    · intro y0 y1 y2
      unfold spec_Sizes.l1
      repeat' first
      | (with_reducible exact ih0 _ _ _ _)
      | (with_reducible exact ih1 _ _ _)
      | (with_reducible exact LeO.refl _)
      | (with_reducible exact LeO.none _)
      | (with_reducible refine LeO.ite ?_ ?_)
      | (with_reducible refine LeO.bind ?_ (fun _ => ?_))
      | exact ih0 _ _ _ _
      | exact ih1 _ _ _
      | exact LeO.none _
      | refine LeO.ite ?_ ?_
      | refine LeO.bind ?_ (fun _ => ?_)
theorem spec_Sizes.mono : ∀ a0 a1 k, LeO (spec_Sizes.f k a0 a1) (spec_Sizes.f (k + 1) a0 a1) := by
  intro a0 a1 k
  obtain ⟨ih0, ih1⟩ := spec_Sizes.mono_l k
  unfold spec_Sizes.f
  repeat' first
      | (with_reducible exact ih0 _ _ _ _)
      | (with_reducible exact ih1 _ _ _)
      | (with_reducible exact LeO.refl _)
      | (with_reducible exact LeO.none _)
      | (with_reducible refine LeO.ite ?_ ?_)
      | (with_reducible refine LeO.bind ?_ (fun _ => ?_))
      | exact ih0 _ _ _ _
      | exact ih1 _ _ _
      | exact LeO.none _
      | refine LeO.ite ?_ ?_
      | refine LeO.bind ?_ (fun _ => ?_)
set_option maxHeartbeats 8000000 in
set_option maxRecDepth 100000 in
theorem spec_Sizes.calls (k : Nat) (a0 : Int) (a1 : Int) (r : List Int) (w : World) (h : spec_Sizes.f k a0 a1 = some r) :
    Calls Try.prog 11 #[.int .u64 a0, .int .u64 a1] w fun e w' => ∃ v0_ : Value, e = .returned (v0_) ∧ Kd.R (Kd.int .u64) 23 w' w.heap.size (fun _ => True) v0_ r ∧ Below w.heap.size w w' := by
  have HB := Aside0.mk (Below.refl w.heap.size w)
  have H : (spec_Sizes.l0 k a0 a1 ([] : List Int) 0) = some r := h
  clear h
  have H' := Aside0.mk H
  clear H
  go_enter Try.func11, Try.ntmps11
  go_wp2
  go_loopg [5, 6] k (fun kq v5 v6 w' => ∃ (x5_1 : List Int) (x6_1 : Int), v6 = .int .i64 x6_1 ∧ Aside0 (spec_Sizes.l0 kq a0 a1 x5_1 x6_1 = some r) ∧ Aside0 (kq ≤ k) ∧ Aside0 (Kd.R (Kd.int .u64) 23 w' w.heap.size (fun _ => True) v5 x5_1) ∧ Aside0 (Below w.heap.size w w'))
  case atStart => exact ⟨(([] : List Int)), (0), (by first | rfl | (simp; done) | (simp [*]; done)), H', ⟨Nat.le_refl _⟩, ⟨by first | exact Kd.R_nil _ _ _ _ _ | exact Kd.N_nil _ _ _ _ _ | exact Kd.V_nil _ _ _ _ _ | exact Kd.Q_nil _ _ _ _ _ | exact Kd.S_nil _ _ _ _ _⟩, ⟨by repeat (first | (with_reducible first | exact HB.out | apply below_alloc | apply pw_below_drewN | apply below_drew1) | exact HB.out)⟩⟩
  case round =>
    clear H'
    try clear c1
    try clear p2
    obtain ⟨x5_1, x6_1, rfl, HA, HK1, HO_5, HB⟩ := hrel
    cases gk with
    | zero => exact absurd HA.out (by simp [spec_Sizes.l0])
    | succ k1 =>
      have H := HA.out
      clear HA
      simp only [spec_Sizes.l0] at H
      by_cases c3 : x6_1 < 64
      · rw [if_pos c3] at H
        have c3b0 : decide (x6_1 < 64) = true := decide_eq_true c3
        clear c3
        by_cases c4 : 0 ≤ x6_1
        · rw [if_pos c4] at H
          have c4b0 := eq_true c4
          have c4b1 : decide (0 ≤ x6_1) = true := decide_eq_true c4
          clear c4
          obtain ⟨ji5, hji5⟩ : ∃ j_ : Int, (shr .u64 a0 x6_1) = j_ := ⟨_, rfl⟩
          replace H : (if (Go.bits .and .u64 (ji5) 1) = 1 then (if x5_1.length < 17592186044416 then (spec_Sizes.l0 k1 a0 a1 (x5_1 ++ [shl .u64 1 x6_1]) (wrap64 (x6_1 + 1))) else (none)) else (spec_Sizes.l0 k1 a0 a1 x5_1 (wrap64 (x6_1 + 1)))) = some r := by first | (rw [hji5] at H; exact H) | (simp only [hji5] at H ⊢; exact H)
          have hji5_ : (a0 / 2 ^ min x6_1.toNat 64) = ji5 := hji5
          have hji5z : x6_1 ≤ 64 → (a0 / 2 ^ x6_1.toNat) = ji5 := shr_small hji5
          by_cases c6 : (Go.bits .and .u64 (ji5) 1) = 1
          · rw [if_pos c6] at H
            have c6b0 : ((Go.bits .and .u64 (ji5) 1) == 1) = true := beq_iff_eq.mpr c6
            have c6b1 : ((Go.bits .and .u64 (ji5) 1) != 1) = false := bne_eq_false_iff_eq.mpr c6
            clear c6
            have c7b0 := eq_true (of_decide_eq_true (by first | (with_reducible assumption) | assumption) : 0 ≤ x6_1)
            obtain ⟨ji8, hji8⟩ : ∃ j_ : Int, (shl .u64 1 x6_1) = j_ := ⟨_, rfl⟩
            replace H : (if x5_1.length < 17592186044416 then (spec_Sizes.l0 k1 a0 a1 (x5_1 ++ [ji8]) (wrap64 (x6_1 + 1))) else (none)) = some r := by first | (rw [hji8] at H; exact H) | (simp only [hji8] at H ⊢; exact H)
            have hji8_ : (IntKind.u64.wrap (1 * 2 ^ min x6_1.toNat 64)) = ji8 := hji8
            have hji8z : x6_1 ≤ 64 → (IntKind.u64.wrap (1 * 2 ^ x6_1.toNat)) = ji8 := shl_small hji8
            have hji8u : (IntKind.u64.wrap (2 ^ min x6_1.toNat 64)) = ji8 := by have h_ := hji8_; rw [Int.one_mul] at h_; exact h_
            have hji8v : x6_1 ≤ 64 → (IntKind.u64.wrap (2 ^ x6_1.toNat)) = ji8 := fun hle_ => by have h_ := hji8z hle_; rw [Int.one_mul] at h_; exact h_
            by_cases c9 : x5_1.length < 17592186044416
            · rw [if_pos c9] at H
              have LMc9 := Aside0.mk c9
              clear c9
              obtain ⟨y122, hy122⟩ : ∃ y_ : List Int, y_ = (x5_1 ++ [ji8]) := ⟨_, rfl⟩
              replace H : (spec_Sizes.l0 k1 a0 a1 y122 (wrap64 (x6_1 + 1))) = some r := by first | (rw [hy122]; with_reducible exact H) | (have H2_ := (Option.bind_some _ _).symm.trans H; rw [hy122]; with_reducible exact H2_) | (have H2_ := (Option.bind_some _ _).symm.trans H; with_reducible exact H2_) | with_reducible exact H | (rw [hy122]; exact H) | exact H
              have Ny122 := Aside0.mk hy122
              clear hy122
              have H' := Aside0.mk H
              clear H
              go_wp2_with (first | ((with_reducible refine gate_builtin (b := .append) (xs := #[.tmp 17, .tmp 20]) rfl ?_); at_builtin; refine Kd.R_append (Kd.int .u64) (w0 := w) w.heap.size rfl (.tmp 17) (.tmp 20) 33 23 (.int .u64 0) 8 rfl Try.underlying33 info23 rfl (by decide) (by omega) u5 x5_1 ji8 [.int .u64 ji8] (fun _ => True) (fun _ => False) rfl rfl ?aP (fun _ hk => hk.elim) ?aF ?aO ?aB ?aS ?aL ?_; (case aP => exact rfl); (case aB => exact (by repeat (first | (with_reducible first | exact HB.out | apply below_alloc | apply pw_below_drewN | apply below_drew1) | exact HB.out))); (case aF => exact (fun _ _ => trivial)); (case aO => exact (by (with_reducible repeat (first | apply Kd.R_alloc | apply Kd.R_drewN | apply Kd.R_drew)); exact HO_5.out)); (case aS => exact (below_size (by repeat (first | (with_reducible first | exact HB.out | apply below_alloc | apply pw_below_drewN | apply below_drew1) | exact HB.out)))); (case aL => have := LMc9.out; omega); intro v123 w10 ho hb hg hat; rw [← Ny122.out] at ho; have n0_ := Aside0.mk (hb); have n1_ := Aside0.mk (ho); clear HB; clear HO_5; have HB := n0_; have HO124 := n1_; clear n0_ n1_; clear ho hb hg hat))
              go_roundg k1
              case measure => have := HK1.out; omega
              case rel => exact ⟨(y122), (wrap64 (x6_1 + 1)), (by first | rfl | (simp; done) | (simp [*]; done)), H', ⟨by have := HK1.out; omega⟩, ⟨by (with_reducible repeat (first | apply Kd.R_alloc | apply Kd.R_drewN | apply Kd.R_drew)); exact HO124.out⟩, ⟨by repeat (first | (with_reducible first | exact HB.out | apply below_alloc | apply pw_below_drewN | apply below_drew1) | exact HB.out)⟩⟩
            · rw [if_neg c9] at H
              exact absurd H (by simp)
          · rw [if_neg c6] at H
            have c6b0 : ((Go.bits .and .u64 (ji5) 1) == 1) = false := beq_eq_false_iff_ne.mpr c6
            have c6b1 : ((Go.bits .and .u64 (ji5) 1) != 1) = true := bne_iff_ne.mpr c6
            have H' := Aside0.mk H
            clear H
            go_wp2
            go_roundg k1
            case measure => have := HK1.out; omega
            case rel => exact ⟨(x5_1), (wrap64 (x6_1 + 1)), (by first | rfl | (simp; done) | (simp [*]; done)), H', ⟨by have := HK1.out; omega⟩, ⟨by (with_reducible repeat (first | apply Kd.R_alloc | apply Kd.R_drewN | apply Kd.R_drew)); exact HO_5.out⟩, ⟨by repeat (first | (with_reducible first | exact HB.out | apply below_alloc | apply pw_below_drewN | apply below_drew1) | exact HB.out)⟩⟩
        · rw [if_neg c4] at H
          exact absurd H (by simp)
      · rw [if_neg c3] at H
        have c3b0 : decide (x6_1 < 64) = false := decide_eq_false c3
        clear c3
        have H' := Aside0.mk H
        clear H
        go_wp2
        go_loopg [5, 7] k1 (fun kq v5 v7 w' => ∃ (x5_2 : List Int) (x7_2 : Int), v7 = .int .i64 x7_2 ∧ Aside0 (spec_Sizes.l1 kq a1 x5_2 x7_2 = some r) ∧ Aside0 (kq ≤ k1) ∧ Aside0 (Kd.R (Kd.int .u64) 23 w' w.heap.size (fun _ => True) v5 x5_2) ∧ Aside0 (Below w.heap.size w w'))
        case atStart => exact ⟨(x5_1), (63), (by first | rfl | (simp; done) | (simp [*]; done)), H', ⟨Nat.le_refl _⟩, ⟨by (with_reducible repeat (first | apply Kd.R_alloc | apply Kd.R_drewN | apply Kd.R_drew)); exact HO_5.out⟩, ⟨by repeat (first | (with_reducible first | exact HB.out | apply below_alloc | apply pw_below_drewN | apply below_drew1) | exact HB.out)⟩⟩
        case round =>
          clear H'
          try clear c1
          try clear p2
          try clear c3
          try clear c3b0
          try clear c4
          try clear c4b0
          try clear c4b1
          try clear c6
          try clear c6b0
          try clear c6b1
          try clear p6
          try clear c7
          try clear c7b0
          try clear c9
          try clear p2
          obtain ⟨x5_2, x7_2, rfl, HA, HK2, HO_5, HB⟩ := hrel
          cases gk with
          | zero => exact absurd HA.out (by simp [spec_Sizes.l1])
          | succ k2 =>
            have H := HA.out
            clear HA
            simp only [spec_Sizes.l1] at H
            by_cases c11 : x7_2 ≥ 0
            · rw [if_pos c11] at H
              have c11b0 : decide (0 ≤ x7_2) = true := decide_eq_true c11
              clear c11
              by_cases c12 : 0 ≤ x7_2
              · rw [if_pos c12] at H
                have c12b0 := eq_true c12
                have c12b1 : decide (0 ≤ x7_2) = true := decide_eq_true c12
                clear c12
                obtain ⟨ji13, hji13⟩ : ∃ j_ : Int, (shr .u64 a1 x7_2) = j_ := ⟨_, rfl⟩
                replace H : (if (Go.bits .and .u64 (ji13) 1) = 1 then (if x5_2.length < 17592186044416 then (spec_Sizes.l1 k2 a1 (x5_2 ++ [shl .u64 1 x7_2]) (wrap64 (x7_2 - 1))) else (none)) else (spec_Sizes.l1 k2 a1 x5_2 (wrap64 (x7_2 - 1)))) = some r := by first | (rw [hji13] at H; exact H) | (simp only [hji13] at H ⊢; exact H)
                have hji13_ : (a1 / 2 ^ min x7_2.toNat 64) = ji13 := hji13
                have hji13z : x7_2 ≤ 64 → (a1 / 2 ^ x7_2.toNat) = ji13 := shr_small hji13
                by_cases c14 : (Go.bits .and .u64 (ji13) 1) = 1
                · rw [if_pos c14] at H
                  have c14b0 : ((Go.bits .and .u64 (ji13) 1) == 1) = true := beq_iff_eq.mpr c14
                  have c14b1 : ((Go.bits .and .u64 (ji13) 1) != 1) = false := bne_eq_false_iff_eq.mpr c14
                  clear c14
                  have c15b0 := eq_true (of_decide_eq_true (by first | (with_reducible assumption) | assumption) : 0 ≤ x7_2)
                  obtain ⟨ji16, hji16⟩ : ∃ j_ : Int, (shl .u64 1 x7_2) = j_ := ⟨_, rfl⟩
                  replace H : (if x5_2.length < 17592186044416 then (spec_Sizes.l1 k2 a1 (x5_2 ++ [ji16]) (wrap64 (x7_2 - 1))) else (none)) = some r := by first | (rw [hji16] at H; exact H) | (simp only [hji16] at H ⊢; exact H)
                  have hji16_ : (IntKind.u64.wrap (1 * 2 ^ min x7_2.toNat 64)) = ji16 := hji16
                  have hji16z : x7_2 ≤ 64 → (IntKind.u64.wrap (1 * 2 ^ x7_2.toNat)) = ji16 := shl_small hji16
                  have hji16u : (IntKind.u64.wrap (2 ^ min x7_2.toNat 64)) = ji16 := by have h_ := hji16_; rw [Int.one_mul] at h_; exact h_
                  have hji16v : x7_2 ≤ 64 → (IntKind.u64.wrap (2 ^ x7_2.toNat)) = ji16 := fun hle_ => by have h_ := hji16z hle_; rw [Int.one_mul] at h_; exact h_
                  by_cases c17 : x5_2.length < 17592186044416
                  · rw [if_pos c17] at H
                    have LMc17 := Aside0.mk c17
                    clear c17
                    obtain ⟨y125, hy125⟩ : ∃ y_ : List Int, y_ = (x5_2 ++ [ji16]) := ⟨_, rfl⟩
                    replace H : (spec_Sizes.l1 k2 a1 y125 (wrap64 (x7_2 - 1))) = some r := by first | (rw [hy125]; with_reducible exact H) | (have H2_ := (Option.bind_some _ _).symm.trans H; rw [hy125]; with_reducible exact H2_) | (have H2_ := (Option.bind_some _ _).symm.trans H; with_reducible exact H2_) | with_reducible exact H | (rw [hy125]; exact H) | exact H
                    have Ny125 := Aside0.mk hy125
                    clear hy125
                    have H' := Aside0.mk H
                    clear H
                    go_wp2_with (first | ((with_reducible refine gate_builtin (b := .append) (xs := #[.tmp 31, .tmp 34]) rfl ?_); at_builtin; refine Kd.R_append (Kd.int .u64) (w0 := w) w.heap.size rfl (.tmp 31) (.tmp 34) 33 23 (.int .u64 0) 8 rfl Try.underlying33 info23 rfl (by decide) (by omega) u5 x5_2 ji16 [.int .u64 ji16] (fun _ => True) (fun _ => False) rfl rfl ?aP (fun _ hk => hk.elim) ?aF ?aO ?aB ?aS ?aL ?_; (case aP => exact rfl); (case aB => exact (by repeat (first | (with_reducible first | exact HB.out | apply below_alloc | apply pw_below_drewN | apply below_drew1) | exact HB.out))); (case aF => exact (fun _ _ => trivial)); (case aO => exact (by (with_reducible repeat (first | apply Kd.R_alloc | apply Kd.R_drewN | apply Kd.R_drew)); exact HO_5.out)); (case aS => exact (below_size (by repeat (first | (with_reducible first | exact HB.out | apply below_alloc | apply pw_below_drewN | apply below_drew1) | exact HB.out)))); (case aL => have := LMc17.out; omega); intro v126 w18 ho hb hg hat; rw [← Ny125.out] at ho; have n0_ := Aside0.mk (hb); have n1_ := Aside0.mk (ho); clear HB; clear HO_5; have HB := n0_; have HO127 := n1_; clear n0_ n1_; clear ho hb hg hat))
                    go_roundg k2
                    case measure => have := HK1.out; have := HK2.out; omega
                    case rel => exact ⟨(y125), (wrap64 (x7_2 - 1)), (by first | rfl | (simp; done) | (simp [*]; done)), H', ⟨by have := HK1.out; have := HK2.out; omega⟩, ⟨by (with_reducible repeat (first | apply Kd.R_alloc | apply Kd.R_drewN | apply Kd.R_drew)); exact HO127.out⟩, ⟨by repeat (first | (with_reducible first | exact HB.out | apply below_alloc | apply pw_below_drewN | apply below_drew1) | exact HB.out)⟩⟩
                  · rw [if_neg c17] at H
                    exact absurd H (by simp)
                · rw [if_neg c14] at H
                  have c14b0 : ((Go.bits .and .u64 (ji13) 1) == 1) = false := beq_eq_false_iff_ne.mpr c14
                  have c14b1 : ((Go.bits .and .u64 (ji13) 1) != 1) = true := bne_iff_ne.mpr c14
                  have H' := Aside0.mk H
                  clear H
                  go_wp2
                  go_roundg k2
                  case measure => have := HK1.out; have := HK2.out; omega
                  case rel => exact ⟨(x5_2), (wrap64 (x7_2 - 1)), (by first | rfl | (simp; done) | (simp [*]; done)), H', ⟨by have := HK1.out; have := HK2.out; omega⟩, ⟨by (with_reducible repeat (first | apply Kd.R_alloc | apply Kd.R_drewN | apply Kd.R_drew)); exact HO_5.out⟩, ⟨by repeat (first | (with_reducible first | exact HB.out | apply below_alloc | apply pw_below_drewN | apply below_drew1) | exact HB.out)⟩⟩
              · rw [if_neg c12] at H
                exact absurd H (by simp)
            · rw [if_neg c11] at H
              have c11b0 : decide (0 ≤ x7_2) = false := decide_eq_false c11
              clear c11
              obtain rfl := Option.some.inj H
              go_wp2
              go_ret
              exact ⟨_, by first | rfl | (simp [errW_none, errW_some] <;> rfl) | (simp [*, errW_none, errW_some] <;> rfl), by (with_reducible repeat (first | apply Kd.R_alloc | apply Kd.R_drewN | apply Kd.R_drew)); exact HO_5.out, by repeat (first | (with_reducible first | exact HB.out | apply below_alloc | apply pw_below_drewN | apply below_drew1) | exact HB.out)⟩

/-! ### laws_FnDecomposeMinimal: function 4 -/
def laws_FnDecomposeMinimal.l0 : Nat → Int → Int → Int → List Int → Int → Int → Option (Bool)
  | 0, _, _, _, _, _, _ => none
  | k + 1, x1, x7, x8, x23, x24, x25 => if x25 < x24 then (if 0 ≤ x25 then (if x25 < (x23.length : Int) then (if (rd x23 x25) = 0 then (none) else (if (Int.tmod x7 (rd x23 x25)) = 0 then (if (rd x23 x25) > (IntKind.u64.wrap (x1 - x7)) then (some false) else (if x8 = (rd x23 x25) then (if (IntKind.u64.wrap (2 * (rd x23 x25))) = 0 then (none) else (if (Int.tmod (IntKind.u64.wrap (x7 - (rd x23 x25))) (IntKind.u64.wrap (2 * (rd x23 x25)))) = 0 then (some false) else (laws_FnDecomposeMinimal.l0 k x1 (IntKind.u64.wrap (x7 + (rd x23 x25))) (rd x23 x25) x23 x24 (wrap64 (x25 + 1))))) else (laws_FnDecomposeMinimal.l0 k x1 (IntKind.u64.wrap (x7 + (rd x23 x25))) (rd x23 x25) x23 x24 (wrap64 (x25 + 1))))) else (some false))) else (none)) else (none)) else (some (x7 == x1))
def laws_FnDecomposeMinimal.f (k : Nat) (a0 : Int) (a1 : Int) : Option (Bool) := if a0 > a1 then (some true) else ((impl_Decompose.f a0 a1).bind fun bt128 => ((spec_Sizes.f k bt128.1 bt128.2).bind fun t130 => (laws_FnDecomposeMinimal.l0 k a1 a0 0 t130 (t130.length : Int) 0)))
theorem laws_FnDecomposeMinimal.mono_l : ∀ k, (∀ y0 y1 y2 y3 y4 y5, LeO (laws_FnDecomposeMinimal.l0 k y0 y1 y2 y3 y4 y5) (laws_FnDecomposeMinimal.l0 (k + 1) y0 y1 y2 y3 y4 y5))
  | 0 => fun _ _ _ _ _ _ r h => by simp [laws_FnDecomposeMinimal.l0] at h
  | k + 1 => by
    have ih0 := laws_FnDecomposeMinimal.mono_l k
    · intro y0 y1 y2 y3 y4 y5
      unfold laws_FnDecomposeMinimal.l0
      repeat' first
      | (with_reducible exact ih0 _ _ _ _ _ _)
      | (with_reducible exact spec_Sizes.mono _ _ _)
      | (with_reducible exact LeO.refl _)
      | (with_reducible exact LeO.none _)
      | (with_reducible refine LeO.ite ?_ ?_)
      | (with_reducible refine LeO.bind ?_ (fun _ => ?_))
      | exact ih0 _ _ _ _ _ _
      | exact spec_Sizes.mono _ _ _
      | exact LeO.none _
      | refine LeO.ite ?_ ?_
      | refine LeO.bind ?_ (fun _ => ?_)
theorem laws_FnDecomposeMinimal.mono : ∀ a0 a1 k, LeO (laws_FnDecomposeMinimal.f k a0 a1) (laws_FnDecomposeMinimal.f (k + 1) a0 a1) := by
  intro a0 a1 k
  have ih0 := laws_FnDecomposeMinimal.mono_l k
  unfold laws_FnDecomposeMinimal.f
  repeat' first
      | (with_reducible exact ih0 _ _ _ _ _ _)
      | (with_reducible exact spec_Sizes.mono _ _ _)
      | (with_reducible exact LeO.refl _)
      | (with_reducible exact LeO.none _)
      | (with_reducible refine LeO.ite ?_ ?_)
      | (with_reducible refine LeO.bind ?_ (fun _ => ?_))
      | exact ih0 _ _ _ _ _ _
      | exact spec_Sizes.mono _ _ _
      | exact LeO.none _
      | refine LeO.ite ?_ ?_
      | refine LeO.bind ?_ (fun _ => ?_)
set_option maxHeartbeats 8000000 in
set_option maxRecDepth 100000 in
theorem laws_FnDecomposeMinimal.calls (k : Nat) (a0 : Int) (a1 : Int) (r : Bool) (w : World) (h : laws_FnDecomposeMinimal.f k a0 a1 = some r) :
    Calls Try.prog 4 #[.int .u64 a0, .int .u64 a1] w fun e w' => e = .returned (.bool r) ∧ Below w.heap.size w w' := by
  have HB := Aside0.mk (Below.refl w.heap.size w)
  have H : (if a0 > a1 then (some true) else ((impl_Decompose.f a0 a1).bind fun bt128 => ((spec_Sizes.f k bt128.1 bt128.2).bind fun t130 => (laws_FnDecomposeMinimal.l0 k a1 a0 0 t130 (t130.length : Int) 0)))) = some r := h
  clear h
  by_cases c3 : a0 > a1
  · rw [if_pos c3] at H
    have c3b0 : decide (a1 < a0) = true := decide_eq_true c3
    clear c3
    obtain rfl := Option.some.inj H
    go_enter Try.func4, Try.ntmps4
    go_wp2
    go_ret
    exact ⟨by first | rfl | (simp [errW_none, errW_some] <;> rfl) | (simp [*, errW_none, errW_some] <;> rfl), by repeat (first | (with_reducible first | exact HB.out | apply below_alloc | apply pw_below_drewN | apply below_drew1) | exact HB.out)⟩
  · rw [if_neg c3] at H
    have c3b0 : decide (a1 < a0) = false := decide_eq_false c3
    clear c3
    replace H := Option.bind_eq_some_iff.mp H
    obtain ⟨⟨t128, t129⟩, A40, H⟩ := H
    replace H : ((spec_Sizes.f k t128 t129).bind fun t130 => (laws_FnDecomposeMinimal.l0 k a1 a0 0 t130 (t130.length : Int) 0)) = some r := H
    have A4 := Aside0.mk A40
    clear A40
    replace H := Option.bind_eq_some_iff.mp H
    obtain ⟨t130, A50, H⟩ := H
    replace H : (laws_FnDecomposeMinimal.l0 k a1 a0 0 t130 (t130.length : Int) 0) = some r := H
    have A5 := Aside0.mk A50
    clear A50
    have H' := Aside0.mk H
    clear H
    go_enter Try.func4, Try.ntmps4
    go_wp2_with (first | ((with_reducible refine gate_callee (f := 10) rfl ?_); refine goesL_ (some 17) rfl rfl Try.func10 (by kernel_rfl) rfl #[.int .u64 a0, .int .u64 a1] rfl (by (try simp only [List.map_toArray, List.map_cons, List.map_nil]); first | done | rfl | (simp only [List.length_drop, List.length_take]; rfl)) ?_; (with_reducible refine (impl_Decompose.calls a0 a1 t128 t129 _ A4.out).mono ?_); rintro e w' ⟨rfl, ⟨nd, rfl⟩⟩; refine ⟨_, rfl, ?_⟩) | ((with_reducible refine gate_callee (f := 11) rfl ?_); refine goesL_ (some 23) rfl rfl Try.func11 (by kernel_rfl) rfl #[.int .u64 t128, .int .u64 t129] rfl (by (try simp only [List.map_toArray, List.map_cons, List.map_nil]); first | done | rfl | (simp only [List.length_drop, List.length_take]; rfl)) ?_; (with_reducible refine (spec_Sizes.calls k t128 t129 t130 _ A5.out).mono ?_); rintro e w6 ⟨v131, rfl, ho0, hb⟩; refine ⟨_, rfl, ?_⟩; have n0_ := Aside0.mk (Kd.R_lower ho0 (below_size (by repeat (first | (with_reducible first | exact HB.out | apply below_alloc | apply pw_below_drewN | apply below_drew1) | exact HB.out)))); have n1_ := Aside0.mk (below_step (by repeat (first | (with_reducible first | exact HB.out | apply below_alloc | apply pw_below_drewN | apply below_drew1) | exact HB.out)) hb); clear HB; have HO132 := n0_; have HB := n1_; clear n0_ n1_; (try clear hb); (try clear hb2); (try clear hk); (try clear hi); (try clear ho0); obtain ⟨Ao7, co7, eo7⟩ := Kd.R_slice HO132.out; subst eo7))
    go_loopg [7, 8, 25] k (fun kq v7 v8 v25 w' => ∃ (x7_1 : Int) (x8_1 : Int) (x25_1 : Int), v7 = .int .u64 x7_1 ∧ v8 = .int .u64 x8_1 ∧ v25 = .int .i64 x25_1 ∧ Aside0 (laws_FnDecomposeMinimal.l0 kq a1 x7_1 x8_1 t130 (t130.length : Int) x25_1 = some r) ∧ Aside0 (kq ≤ k) ∧ Aside0 (Kd.R (Kd.int .u64) 23 w' w.heap.size (fun _ => True) (.slice Ao7 t130.length co7) t130) ∧ Aside0 (Below w.heap.size w w'))
    case atStart => exact ⟨(a0), (0), (0), (by first | rfl | (simp; done) | (simp [*]; done)), (by first | rfl | (simp; done) | (simp [*]; done)), (by first | rfl | (simp; done) | (simp [*]; done)), H', ⟨Nat.le_refl _⟩, ⟨by (with_reducible repeat (first | apply Kd.R_alloc | apply Kd.R_drewN | apply Kd.R_drew)); exact HO132.out⟩, ⟨by repeat (first | (with_reducible first | exact HB.out | apply below_alloc | apply pw_below_drewN | apply below_drew1) | exact HB.out)⟩⟩
    case round =>
      clear H'
      try clear c1
      try clear p2
      try clear c3
      try clear c3b0
      try clear c4
      obtain ⟨x7_1, x8_1, x25_1, rfl, rfl, rfl, HA, HK1, HO_23, HB⟩ := hrel
      cases gk with
      | zero => exact absurd HA.out (by simp [laws_FnDecomposeMinimal.l0])
      | succ k1 =>
        have H := HA.out
        clear HA
        simp only [laws_FnDecomposeMinimal.l0] at H
        by_cases c8 : x25_1 < (t130.length : Int)
        · rw [if_pos c8] at H
          have c8b0 : decide (x25_1 < (t130.length : Int)) = true := decide_eq_true c8
          clear c8
          by_cases c9 : 0 ≤ x25_1
          · rw [if_pos c9] at H
            have c9b0 : decide (0 ≤ x25_1) = true := decide_eq_true c9
            clear c9
            by_cases c10 : x25_1 < (t130.length : Int)
            · rw [if_pos c10] at H
              have c10b0 : decide (x25_1 < (t130.length : Int)) = true := decide_eq_true c10
              clear c10
              by_cases c11 : (rd t130 x25_1) = 0
              · rw [if_pos c11] at H
                exact absurd H (by simp)
              · rw [if_neg c11] at H
                have c11b0 : ((rd t130 x25_1) == 0) = false := beq_eq_false_iff_ne.mpr c11
                have c11b1 : ((rd t130 x25_1) != 0) = true := bne_iff_ne.mpr c11
                by_cases c12 : (Int.tmod x7_1 (rd t130 x25_1)) = 0
                · rw [if_pos c12] at H
                  have c12b0 : ((Int.tmod x7_1 (rd t130 x25_1)) == 0) = true := beq_iff_eq.mpr c12
                  have c12b1 : ((Int.tmod x7_1 (rd t130 x25_1)) != 0) = false := bne_eq_false_iff_eq.mpr c12
                  clear c12
                  by_cases c13 : (rd t130 x25_1) > (IntKind.u64.wrap (a1 - x7_1))
                  · rw [if_pos c13] at H
                    have c13b0 : decide ((IntKind.u64.wrap (a1 - x7_1)) < (rd t130 x25_1)) = true := decide_eq_true c13
                    clear c13
                    obtain rfl := Option.some.inj H
                    have p133 : 0 ≤ (x25_1 : Int) := of_decide_eq_true (by first | (with_reducible assumption) | assumption)
                    have q133 : x25_1 < (t130.length : Int) := of_decide_eq_true (by first | (with_reducible assumption) | assumption)
                    obtain ⟨ad133, e133, hx133_0⟩ := Kd.at_int (Kd.R_reads' HO_23.out).2.2 x25_1 p133 q133
                    cases e133
                    replace p133 := eq_true p133
                    replace q133 := eq_true q133
                    go_wp2
                    go_ret
                    exact ⟨by first | rfl | (simp [errW_none, errW_some] <;> rfl) | (simp [*, errW_none, errW_some] <;> rfl), by repeat (first | (with_reducible first | exact HB.out | apply below_alloc | apply pw_below_drewN | apply below_drew1) | exact HB.out)⟩
                  · rw [if_neg c13] at H
                    have c13b0 : decide ((IntKind.u64.wrap (a1 - x7_1)) < (rd t130 x25_1)) = false := decide_eq_false c13
                    clear c13
                    by_cases c14 : x8_1 = (rd t130 x25_1)
                    · rw [if_pos c14] at H
                      have c14b0 : (x8_1 == (rd t130 x25_1)) = true := beq_iff_eq.mpr c14
                      have c14b1 : (x8_1 != (rd t130 x25_1)) = false := bne_eq_false_iff_eq.mpr c14
                      clear c14
                      by_cases c15 : (IntKind.u64.wrap (2 * (rd t130 x25_1))) = 0
                      · rw [if_pos c15] at H
                        exact absurd H (by simp)
                      · rw [if_neg c15] at H
                        have c15b0 : ((IntKind.u64.wrap (2 * (rd t130 x25_1))) == 0) = false := beq_eq_false_iff_ne.mpr c15
                        have c15b1 : ((IntKind.u64.wrap (2 * (rd t130 x25_1))) != 0) = true := bne_iff_ne.mpr c15
                        by_cases c16 : (Int.tmod (IntKind.u64.wrap (x7_1 - (rd t130 x25_1))) (IntKind.u64.wrap (2 * (rd t130 x25_1)))) = 0
                        · rw [if_pos c16] at H
                          have c16b0 : ((Int.tmod (IntKind.u64.wrap (x7_1 - (rd t130 x25_1))) (IntKind.u64.wrap (2 * (rd t130 x25_1)))) == 0) = true := beq_iff_eq.mpr c16
                          have c16b1 : ((Int.tmod (IntKind.u64.wrap (x7_1 - (rd t130 x25_1))) (IntKind.u64.wrap (2 * (rd t130 x25_1)))) != 0) = false := bne_eq_false_iff_eq.mpr c16
                          clear c16
                          obtain rfl := Option.some.inj H
                          have p133 : 0 ≤ (x25_1 : Int) := of_decide_eq_true (by first | (with_reducible assumption) | assumption)
                          have q133 : x25_1 < (t130.length : Int) := of_decide_eq_true (by first | (with_reducible assumption) | assumption)
                          obtain ⟨ad133, e133, hx133_0⟩ := Kd.at_int (Kd.R_reads' HO_23.out).2.2 x25_1 p133 q133
                          cases e133
                          replace p133 := eq_true p133
                          replace q133 := eq_true q133
                          go_wp2
                          go_ret
                          exact ⟨by first | rfl | (simp [errW_none, errW_some] <;> rfl) | (simp [*, errW_none, errW_some] <;> rfl), by repeat (first | (with_reducible first | exact HB.out | apply below_alloc | apply pw_below_drewN | apply below_drew1) | exact HB.out)⟩
                        · rw [if_neg c16] at H
                          have c16b0 : ((Int.tmod (IntKind.u64.wrap (x7_1 - (rd t130 x25_1))) (IntKind.u64.wrap (2 * (rd t130 x25_1)))) == 0) = false := beq_eq_false_iff_ne.mpr c16
                          have c16b1 : ((Int.tmod (IntKind.u64.wrap (x7_1 - (rd t130 x25_1))) (IntKind.u64.wrap (2 * (rd t130 x25_1)))) != 0) = true := bne_iff_ne.mpr c16
                          have H' := Aside0.mk H
                          clear H
                          have p133 : 0 ≤ (x25_1 : Int) := of_decide_eq_true (by first | (with_reducible assumption) | assumption)
                          have q133 : x25_1 < (t130.length : Int) := of_decide_eq_true (by first | (with_reducible assumption) | assumption)
                          obtain ⟨ad133, e133, hx133_0⟩ := Kd.at_int (Kd.R_reads' HO_23.out).2.2 x25_1 p133 q133
                          cases e133
                          replace p133 := eq_true p133
                          replace q133 := eq_true q133
                          go_wp2
                          go_roundg k1
                          case measure => have := HK1.out; omega
                          case rel => exact ⟨(IntKind.u64.wrap (x7_1 + (rd t130 x25_1))), (rd t130 x25_1), (wrap64 (x25_1 + 1)), (by first | rfl | (simp; done) | (simp [*]; done)), (by first | rfl | (simp; done) | (simp [*]; done)), (by first | rfl | (simp; done) | (simp [*]; done)), H', ⟨by have := HK1.out; omega⟩, ⟨by (with_reducible repeat (first | apply Kd.R_alloc | apply Kd.R_drewN | apply Kd.R_drew)); exact HO_23.out⟩, ⟨by repeat (first | (with_reducible first | exact HB.out | apply below_alloc | apply pw_below_drewN | apply below_drew1) | exact HB.out)⟩⟩
                    · rw [if_neg c14] at H
                      have c14b0 : (x8_1 == (rd t130 x25_1)) = false := beq_eq_false_iff_ne.mpr c14
                      have c14b1 : (x8_1 != (rd t130 x25_1)) = true := bne_iff_ne.mpr c14
                      have H' := Aside0.mk H
                      clear H
                      have p133 : 0 ≤ (x25_1 : Int) := of_decide_eq_true (by first | (with_reducible assumption) | assumption)
                      have q133 : x25_1 < (t130.length : Int) := of_decide_eq_true (by first | (with_reducible assumption) | assumption)
                      obtain ⟨ad133, e133, hx133_0⟩ := Kd.at_int (Kd.R_reads' HO_23.out).2.2 x25_1 p133 q133
                      cases e133
                      replace p133 := eq_true p133
                      replace q133 := eq_true q133
                      go_wp2
                      go_roundg k1
                      case measure => have := HK1.out; omega
                      case rel => exact ⟨(IntKind.u64.wrap (x7_1 + (rd t130 x25_1))), (rd t130 x25_1), (wrap64 (x25_1 + 1)), (by first | rfl | (simp; done) | (simp [*]; done)), (by first | rfl | (simp; done) | (simp [*]; done)), (by first | rfl | (simp; done) | (simp [*]; done)), H', ⟨by have := HK1.out; omega⟩, ⟨by (with_reducible repeat (first | apply Kd.R_alloc | apply Kd.R_drewN | apply Kd.R_drew)); exact HO_23.out⟩, ⟨by repeat (first | (with_reducible first | exact HB.out | apply below_alloc | apply pw_below_drewN | apply below_drew1) | exact HB.out)⟩⟩
                · rw [if_neg c12] at H
                  have c12b0 : ((Int.tmod x7_1 (rd t130 x25_1)) == 0) = false := beq_eq_false_iff_ne.mpr c12
                  have c12b1 : ((Int.tmod x7_1 (rd t130 x25_1)) != 0) = true := bne_iff_ne.mpr c12
                  obtain rfl := Option.some.inj H
                  have p133 : 0 ≤ (x25_1 : Int) := of_decide_eq_true (by first | (with_reducible assumption) | assumption)
                  have q133 : x25_1 < (t130.length : Int) := of_decide_eq_true (by first | (with_reducible assumption) | assumption)
                  obtain ⟨ad133, e133, hx133_0⟩ := Kd.at_int (Kd.R_reads' HO_23.out).2.2 x25_1 p133 q133
                  cases e133
                  replace p133 := eq_true p133
                  replace q133 := eq_true q133
                  go_wp2
                  go_ret
                  exact ⟨by first | rfl | (simp [errW_none, errW_some] <;> rfl) | (simp [*, errW_none, errW_some] <;> rfl), by repeat (first | (with_reducible first | exact HB.out | apply below_alloc | apply pw_below_drewN | apply below_drew1) | exact HB.out)⟩
            · rw [if_neg c10] at H
              exact absurd H (by simp)
          · rw [if_neg c9] at H
            exact absurd H (by simp)
        · rw [if_neg c8] at H
          have c8b0 : decide (x25_1 < (t130.length : Int)) = false := decide_eq_false c8
          clear c8
          obtain rfl := Option.some.inj H
          go_wp2
          go_ret
          exact ⟨by first | rfl | (simp [errW_none, errW_some] <;> rfl) | (simp [*, errW_none, errW_some] <;> rfl), by repeat (first | (with_reducible first | exact HB.out | apply below_alloc | apply pw_below_drewN | apply below_drew1) | exact HB.out)⟩

/-- THE ONE PURE STATEMENT of laws_FnDecomposeMinimal: yours. -/
def laws_FnDecomposeMinimal.Pure : Prop := ∀ (a0 : Int) (a1 : Int), (Lit.int .u64 a0).wf = true → (Lit.int .u64 a1).wf = true → ∃ k, laws_FnDecomposeMinimal.f k a0 a1 = some true
theorem laws_FnDecomposeMinimal.walk (P : laws_FnDecomposeMinimal.Pure) (a0 : Int) (a1 : Int) (w : World) (w0 : (Lit.int .u64 a0).wf = true) (w1 : (Lit.int .u64 a1).wf = true) :
    Calls Try.prog 4 #[.int .u64 a0, .int .u64 a1] w fun e w' => e = .returned (.bool true) ∧ Below w.heap.size w w' := by
  obtain ⟨k, h⟩ := P a0 a1 w0 w1
  refine (laws_FnDecomposeMinimal.calls k a0 a1 true w h).mono ?_
  rintro e w' ⟨rfl, hd⟩
  exact ⟨rfl, hd⟩

end Go.Proofs.Ytpeikjnkbjabpaa.X
