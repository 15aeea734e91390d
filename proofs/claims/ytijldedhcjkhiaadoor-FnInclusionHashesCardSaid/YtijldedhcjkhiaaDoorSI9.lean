import Derived.Test.YtijldedhcjkhiaaDoorSI0
import Derived.Test.YtijldedhcjkhiaaDoorSI8
namespace Go.Proofs.YtijldedhcjkhiaaDoor.I
open Go.RowKit Go.Proofs.YtijldedhcjkhiaaDoorW.PrintWords Go.Proofs.YtijldedhcjkhiaaDoorW.PrintLast Go.Proofs.YtijldedhcjkhiaaDoorW.PrintMore
attribute [local go_sem] max2_int min2_int max_two min_two max_three min_three max_four min_four   -- for this text's walks alone
set_option linter.unusedVariables false
set_option linter.unusedSimpArgs false
mutual
def spec_proofOf.l0 : Nat → List (S34) → Int → Int → Int → Int → List (S70) → Int → Int → Int → Int → Option ((List (S70)) × Int × Int × Int × Int)
 | 0, _, _, _, _, _, _, _, _, _, _ => none
 | k + 1, x10, x11, x12, x306000, x306001, x308000, x308001, x308002, x308003, x308004 => if x12 < x11 then (if 0 ≤ x12 then (if x12 < (x10.length : Int) then (if ((rd_T34 x10 x12).f1) = x306000 then ((spec_NodeOf.f k ((rd_T34 x10 x12).f0) ((rd_T34 x10 x12).f1)).bind fun bt310 => (if x308000.length < 8796093022208 then (spec_proofOf.l0 k x10 x11 (wrap64 (x12 + 1)) ((rd_T34 x10 x12).f0) x306001 (x308000 ++ [(⟨bt310.1, bt310.2⟩ : S70)]) x308001 x308002 x308003 x308004) else (none))) else (if (IntKind.u64.wrap (((rd_T34 x10 x12).f1) - ((rd_T34 x10 x12).f0))) = (IntKind.u64.wrap (x306001 - x306000)) then ((spec_NodeOf.f k ((rd_T34 x10 x12).f0) ((rd_T34 x10 x12).f1)).bind fun bt315 => (if x308000.length < 8796093022208 then (spec_proofOf.l0 k x10 x11 (wrap64 (x12 + 1)) x306000 ((rd_T34 x10 x12).f1) (x308000 ++ [(⟨bt315.1, bt315.2⟩ : S70)]) x308001 x308002 x308003 x308004) else (none))) else ((spec_Nodes.f k ((rd_T34 x10 x12).f0) ((rd_T34 x10 x12).f1)).bind fun t320 => (spec_proofOf.l1 k t320 (wrap64 ((t320.length : Int) - 1)) x10 x11 x12 x306000 x306001 x308000 x308001 x308002 (x308000.length : Int) (wrap64 ((x308000.length : Int) + (t320.length : Int))) ((rd_T34 x10 x12).f0) ((rd_T34 x10 x12).f1))))) else (none)) else (none)) else (some (x308000, x308001, x308002, x308003, x308004))
def spec_proofOf.l1 : Nat → List (S70) → Int → List (S34) → Int → Int → Int → Int → List (S70) → Int → Int → Int → Int → Int → Int → Option ((List (S70)) × Int × Int × Int × Int)
 | 0, _, _, _, _, _, _, _, _, _, _, _, _, _, _ => none
 | k + 1, x8, x9, x10, x11, x12, x306000, x306001, x308000, x308001, x308002, x308003, x308004, x310000, x310001 => if x9 ≥ 0 then (if 0 ≤ x9 then (if x9 < (x8.length : Int) then (if x308000.length < 8796093022208 then (spec_proofOf.l1 k x8 (wrap64 (x9 - 1)) x10 x11 x12 x306000 x306001 (x308000 ++ [(⟨(rd_T70 x8 x9).f0, (rd_T70 x8 x9).f1⟩ : S70)]) x308001 x308002 x308003 x308004 x310000 x310001) else (none)) else (none)) else (none)) else (spec_proofOf.l0 k x10 x11 (wrap64 (x12 + 1)) x306000 x310001 x308000 x308001 x308002 x308003 x308004)
end
def spec_proofOf.f (k : Nat) (a0_0 : Int) (a0_1 : Int) (l1 : List (S34)) : Option ((List (S70)) × Int × Int × Int × Int) := spec_proofOf.l0 k l1 (l1.length : Int) 0 a0_0 a0_1 ([] : List (S70)) 0 0 0 0
theorem spec_proofOf.mono_l : ∀ k, (∀ y0 y1 y2 y3 y4 y5 y6 y7 y8 y9, LeO (spec_proofOf.l0 k y0 y1 y2 y3 y4 y5 y6 y7 y8 y9) (spec_proofOf.l0 (k + 1) y0 y1 y2 y3 y4 y5 y6 y7 y8 y9)) ∧ (∀ y0 y1 y2 y3 y4 y5 y6 y7 y8 y9 y10 y11 y12 y13, LeO (spec_proofOf.l1 k y0 y1 y2 y3 y4 y5 y6 y7 y8 y9 y10 y11 y12 y13) (spec_proofOf.l1 (k + 1) y0 y1 y2 y3 y4 y5 y6 y7 y8 y9 y10 y11 y12 y13))
 | 0 => ⟨fun _ _ _ _ _ _ _ _ _ _ r h => by simp [spec_proofOf.l0] at h, fun _ _ _ _ _ _ _ _ _ _ _ _ _ _ r h => by simp [spec_proofOf.l1] at h⟩
 | k + 1 => by
  obtain ⟨ih0, ih1⟩ := spec_proofOf.mono_l k
  refine ⟨?_, ?_⟩
  ·intro y0 y1 y2 y3 y4 y5 y6 y7 y8 y9
   unfold spec_proofOf.l0
   repeat' first
   | (with_reducible exact ih0 _ _ _ _ _ _ _ _ _ _)
   | (with_reducible exact ih1 _ _ _ _ _ _ _ _ _ _ _ _ _ _)
   | (with_reducible exact spec_NodeOf.mono _ _ _)
   | (with_reducible exact spec_Nodes.mono _ _ _)
   | (with_reducible exact LeO.refl _)
   | (with_reducible exact LeO.none _)
   | (with_reducible refine LeO.ite ?_ ?_)
   | (with_reducible refine LeO.bind ?_ (fun _ => ?_))
   | exact ih0 _ _ _ _ _ _ _ _ _ _
   | exact ih1 _ _ _ _ _ _ _ _ _ _ _ _ _ _
   | exact spec_NodeOf.mono _ _ _
   | exact spec_Nodes.mono _ _ _
   | exact LeO.none _
   | refine LeO.ite ?_ ?_
   | refine LeO.bind ?_ (fun _ => ?_)
  ·intro y0 y1 y2 y3 y4 y5 y6 y7 y8 y9 y10 y11 y12 y13
   unfold spec_proofOf.l1
   repeat' first
   | (with_reducible exact ih0 _ _ _ _ _ _ _ _ _ _)
   | (with_reducible exact ih1 _ _ _ _ _ _ _ _ _ _ _ _ _ _)
   | (with_reducible exact spec_NodeOf.mono _ _ _)
   | (with_reducible exact spec_Nodes.mono _ _ _)
   | (with_reducible exact LeO.refl _)
   | (with_reducible exact LeO.none _)
   | (with_reducible refine LeO.ite ?_ ?_)
   | (with_reducible refine LeO.bind ?_ (fun _ => ?_))
   | exact ih0 _ _ _ _ _ _ _ _ _ _
   | exact ih1 _ _ _ _ _ _ _ _ _ _ _ _ _ _
   | exact spec_NodeOf.mono _ _ _
   | exact spec_Nodes.mono _ _ _
   | exact LeO.none _
   | refine LeO.ite ?_ ?_
   | refine LeO.bind ?_ (fun _ => ?_)
theorem spec_proofOf.mono : ∀ a0 a1 a2 k, LeO (spec_proofOf.f k a0 a1 a2) (spec_proofOf.f (k + 1) a0 a1 a2) := by
 intro a0 a1 a2 k
 obtain ⟨ih0, ih1⟩ := spec_proofOf.mono_l k
 unfold spec_proofOf.f
 repeat' first
   | (with_reducible exact ih0 _ _ _ _ _ _ _ _ _ _)
   | (with_reducible exact ih1 _ _ _ _ _ _ _ _ _ _ _ _ _ _)
   | (with_reducible exact spec_NodeOf.mono _ _ _)
   | (with_reducible exact spec_Nodes.mono _ _ _)
   | (with_reducible exact LeO.refl _)
   | (with_reducible exact LeO.none _)
   | (with_reducible refine LeO.ite ?_ ?_)
   | (with_reducible refine LeO.bind ?_ (fun _ => ?_))
   | exact ih0 _ _ _ _ _ _ _ _ _ _
   | exact ih1 _ _ _ _ _ _ _ _ _ _ _ _ _ _
   | exact spec_NodeOf.mono _ _ _
   | exact spec_Nodes.mono _ _ _
   | exact LeO.none _
   | refine LeO.ite ?_ ?_
   | refine LeO.bind ?_ (fun _ => ?_)
def spec_proofOf.T6 : Bool × List (List Nat × List Nat) := (true, [([], []), ([0], [0]), ([], []), ([2], [2]), ([3], [3]), ([1, 4, 3], [1, 4]), ([0, 1, 2, 3, 4, 5], []), ([6, 5, 5, 0, 1, 2, 3, 4, 5], [5, 6])])
def spec_proofOf.B6 : List Nat := [0, 1, 0, 4, 12, 31, 63, 127]
theorem spec_proofOf.tab6 : rtab .any (opsOf Tryd.f96 6) = spec_proofOf.T6 := by kernel_rfl
theorem spec_proofOf.bits6 : waitsOk spec_proofOf.T6.2 spec_proofOf.B6 = true := by kernel_rfl
def spec_proofOf.T9 : Bool × List (List Nat × List Nat) := (true, [([], []), ([0], [0]), ([], []), ([2], [2]), ([3], [3]), ([1, 4, 3], [1, 4]), ([0, 1, 2, 3, 4, 5], []), ([6, 5, 5, 0, 1, 2, 3, 4, 5], [5, 6])])
def spec_proofOf.B9 : List Nat := [0, 1, 0, 4, 12, 31, 63, 127]
theorem spec_proofOf.tab9 : rtab .any (opsOf Tryd.f96 9) = spec_proofOf.T9 := by kernel_rfl
theorem spec_proofOf.bits9 : waitsOk spec_proofOf.T9.2 spec_proofOf.B9 = true := by kernel_rfl
def spec_proofOf.T15 : Bool × List (List Nat × List Nat) := (true, [([], []), ([0], [0]), ([], []), ([], []), ([2, 3], [2, 3]), ([4], [4]), ([5], [5]), ([1, 6], [1, 6]), ([0, 1, 2, 3, 4, 5, 6, 7], []), ([8, 7, 7, 0, 1, 2, 3, 4, 5, 6, 7], [7, 8])])
def spec_proofOf.B15 : List Nat := [0, 1, 0, 0, 12, 28, 60, 127, 255, 511]
theorem spec_proofOf.tab15 : rtab .any (opsOf Tryd.f96 15) = spec_proofOf.T15 := by kernel_rfl
theorem spec_proofOf.bits15 : waitsOk spec_proofOf.T15.2 spec_proofOf.B15 = true := by kernel_rfl
set_option maxHeartbeats 8000000 in
set_option maxRecDepth 100000 in
theorem spec_proofOf.calls (k : Nat) (a0_0 : Int) (a0_1 : Int) (A1 : Option Addr) (c1 : Nat) (l1 : List (S34)) (r1 : List (S70)) (r2 : Int) (r3 : Int) (r4 : Int) (r5 : Int) (w : World) (hr1 : Kd.C k34 w A1 l1.length l1) (hc1 : l1.length ≤ c1) (h : spec_proofOf.f k a0_0 a0_1 l1 = some (r1, r2, r3, r4, r5)) :
  Calls Tryd.prog 96 #[.agg #[.int .u64 a0_0, .int .u64 a0_1], .slice A1 l1.length c1] w fun e w' => ∃ v0_ : Value, e = .returned (.agg #[v0_, .int .u64 r2, .int .u64 r3, .int .i64 r4, .int .i64 r5]) ∧ Kd.R k70 70 w' w.heap.size (fun _ => True) v0_ r1 ∧ Below w.heap.size w w' := by
 have hu34 := Tryd.underlying34
 have hu72 := Tryd.underlying72
 have hu70 := Tryd.underlying70
 have HR1 := Aside0.mk hr1
 have HC1 := Aside0.mk hc1
 clear hr1 hc1
 have HB := Aside0.mk (Below.refl w.heap.size w)
 have H : (spec_proofOf.l0 k l1 (l1.length : Int) 0 a0_0 a0_1 ([] : List (S70)) 0 0 0 0) = some (r1, r2, r3, r4, r5) := h
 clear h
 have H' := Aside0.mk H
 clear H
 go_enter Tryd.func96, Tryd.ntmps96
 go_wp2_with (first | ((with_reducible refine gate_dst (N := 2) rfl ?_); refine box_event ?hg (N := 2) ?hd (cs := #[.int .u64 a0_0, .int .u64 a0_1]) (t := 34) ?hr ?_; (case hd => rfl); (case hg => rfl); (case hr => first | (go_simp; done) | (go_simp; rfl)); intro gb305 hg w3 hbox hb; have n0_ := Aside0.mk (below_step (by repeat (first | (with_reducible first | exact HB.out | apply below_alloc | apply pw_below_drewN | apply below_drew1) | exact HB.out)) hb); have n1_ := Aside0.mk (hbox); have n2_ := Aside0.mk ((by rw [hg]; exact (below_size (by repeat (first | (with_reducible first | exact HB.out | apply below_alloc | apply pw_below_drewN | apply below_drew1) | exact HB.out))) : w.heap.size ≤ gb305)); have n3_ := Aside0.mk ((by rw [hg]; exact (below_size (by repeat (first | (with_reducible first | exact HB.out | apply below_alloc | apply pw_below_drewN | apply below_drew1) | exact HB.out))) : w.heap.size ≤ gb305)); clear HB; have HB := n0_; have BK305 := n1_; have GW305 := n2_; have GE305 := n3_; clear n0_ n1_ n2_ n3_; clear hb hbox hg) | ((with_reducible refine gate_dst (N := 4) rfl ?_); refine box_event ?hg (N := 4) ?hd (cs := #[.slice none 0 0, .int .u64 0, .int .u64 0, .int .i64 0, .int .i64 0]) (t := 72) ?hr ?_; (case hd => rfl); (case hg => rfl); (case hr => first | (go_simp; done) | (go_simp; rfl)); intro gb306 hg w4 hbox hb; have n0_ := Aside0.mk (blk_below (g := gb305) (o := .cells #[.int .u64 a0_0, .int .u64 a0_1] 34 (0, 0)) (by (with_reducible repeat (first | refine blk_drewN ?_ _ | refine blk_drew ?_ | refine blk_alloc ?_ _)); exact BK305.out) hb); have n1_ := Aside0.mk (below_step (by repeat (first | (with_reducible first | exact HB.out | apply below_alloc | apply pw_below_drewN | apply below_drew1 | refine below_set ?_ GE305.out) | exact HB.out)) hb); have n2_ := Aside0.mk (hbox); have n3_ := Aside0.mk ((by rw [hg]; exact (below_size (by repeat (first | (with_reducible first | exact HB.out | apply below_alloc | apply pw_below_drewN | apply below_drew1 | refine below_set ?_ GE305.out) | exact HB.out))) : w.heap.size ≤ gb306)); have n4_ := Aside0.mk ((by rw [hg]; exact (below_size (by repeat (first | (with_reducible first | exact HB.out | apply below_alloc | apply pw_below_drewN | apply below_drew1 | refine below_set ?_ GE305.out) | exact HB.out))) : w.heap.size ≤ gb306)); have n5_ := Aside0.mk ((by rw [hg]; exact Nat.ne_of_lt (blk_lt (g := gb305) (o := .cells #[.int .u64 a0_0, .int .u64 a0_1] 34 (0, 0)) (by (with_reducible repeat (first | refine blk_drewN ?_ _ | refine blk_drew ?_ | refine blk_alloc ?_ _)); exact BK305.out)) : gb305 ≠ gb306)); have n6_ := Aside0.mk ((by rw [hg]; exact Nat.ne_of_gt (blk_lt (g := gb305) (o := .cells #[.int .u64 a0_0, .int .u64 a0_1] 34 (0, 0)) (by (with_reducible repeat (first | refine blk_drewN ?_ _ | refine blk_drew ?_ | refine blk_alloc ?_ _)); exact BK305.out)) : gb306 ≠ gb305)); clear BK305; clear HB; have BK305 := n0_; have HB := n1_; have BK306 := n2_; have GW306 := n3_; have GE306 := n4_; have NB305_306 := n5_; have NB306_305 := n6_; clear n0_ n1_ n2_ n3_ n4_ n5_ n6_; clear hb hbox hg) | ((with_reducible refine gate_dst (N := 5) rfl ?_); refine box_event ?hg (N := 5) ?hd (cs := #[.slice none 0 0, .int .u64 0, .int .u64 0, .int .i64 0, .int .i64 0]) (t := 72) ?hr ?_; (case hd => rfl); (case hg => rfl); (case hr => first | (go_simp; done) | (go_simp; rfl)); intro gb307 hg w5 hbox hb; have n0_ := Aside0.mk (blk_below (g := gb305) (o := .cells #[.int .u64 a0_0, .int .u64 a0_1] 34 (0, 0)) (by (with_reducible repeat (first | refine blk_drewN ?_ _ | refine blk_drew ?_ | refine blk_alloc ?_ _)); exact BK305.out) hb); have n1_ := Aside0.mk (blk_below (g := gb306) (o := .cells #[.slice none 0 0, .int .u64 0, .int .u64 0, .int .i64 0, .int .i64 0] 72 (0, 0)) (by (with_reducible repeat (first | refine blk_drewN ?_ _ | refine blk_drew ?_ | refine blk_alloc ?_ _)); exact BK306.out) hb); have n2_ := Aside0.mk (below_step (by repeat (first | (with_reducible first | exact HB.out | apply below_alloc | apply pw_below_drewN | apply below_drew1 | refine below_set ?_ GE305.out | refine below_set ?_ GE306.out) | exact HB.out)) hb); have n3_ := Aside0.mk (hbox); have n4_ := Aside0.mk ((by rw [hg]; exact (below_size (by repeat (first | (with_reducible first | exact HB.out | apply below_alloc | apply pw_below_drewN | apply below_drew1 | refine below_set ?_ GE305.out | refine below_set ?_ GE306.out) | exact HB.out))) : w.heap.size ≤ gb307)); have n5_ := Aside0.mk ((by rw [hg]; exact (below_size (by repeat (first | (with_reducible first | exact HB.out | apply below_alloc | apply pw_below_drewN | apply below_drew1 | refine below_set ?_ GE305.out | refine below_set ?_ GE306.out) | exact HB.out))) : w.heap.size ≤ gb307)); have n6_ := Aside0.mk ((by rw [hg]; exact Nat.ne_of_lt (blk_lt (g := gb305) (o := .cells #[.int .u64 a0_0, .int .u64 a0_1] 34 (0, 0)) (by (with_reducible repeat (first | refine blk_drewN ?_ _ | refine blk_drew ?_ | refine blk_alloc ?_ _)); exact BK305.out)) : gb305 ≠ gb307)); have n7_ := Aside0.mk ((by rw [hg]; exact Nat.ne_of_gt (blk_lt (g := gb305) (o := .cells #[.int .u64 a0_0, .int .u64 a0_1] 34 (0, 0)) (by (with_reducible repeat (first | refine blk_drewN ?_ _ | refine blk_drew ?_ | refine blk_alloc ?_ _)); exact BK305.out)) : gb307 ≠ gb305)); have n8_ := Aside0.mk ((by rw [hg]; exact Nat.ne_of_lt (blk_lt (g := gb306) (o := .cells #[.slice none 0 0, .int .u64 0, .int .u64 0, .int .i64 0, .int .i64 0] 72 (0, 0)) (by (with_reducible repeat (first | refine blk_drewN ?_ _ | refine blk_drew ?_ | refine blk_alloc ?_ _)); exact BK306.out)) : gb306 ≠ gb307)); have n9_ := Aside0.mk ((by rw [hg]; exact Nat.ne_of_gt (blk_lt (g := gb306) (o := .cells #[.slice none 0 0, .int .u64 0, .int .u64 0, .int .i64 0, .int .i64 0] 72 (0, 0)) (by (with_reducible repeat (first | refine blk_drewN ?_ _ | refine blk_drew ?_ | refine blk_alloc ?_ _)); exact BK306.out)) : gb307 ≠ gb306)); clear BK305; clear BK306; clear HB; have BK305 := n0_; have BK306 := n1_; have HB := n2_; have BK307 := n3_; have GW307 := n4_; have GE307 := n5_; have NB305_307 := n6_; have NB307_305 := n7_; have NB306_307 := n8_; have NB307_306 := n9_; clear n0_ n1_ n2_ n3_ n4_ n5_ n6_ n7_ n8_ n9_; clear hb hbox hg))
 try simp only [Act.put, List.setIfInBounds_toArray, List.set_cons_zero, List.set_cons_succ]
 go_loopg [12] k (fun kq v12 w' => ∃ (x12_1 : Int) (x306000_1 : Int) (x306001_1 : Int) (x308000_1 : List (S70)) (x308003_1 : Int) (x308004_1 : Int) (u308000 : Value), v12 = .int .i64 x12_1 ∧ Aside0 (spec_proofOf.l0 kq l1 (l1.length : Int) x12_1 x306000_1 x306001_1 x308000_1 0 0 x308003_1 x308004_1 = some (r1, r2, r3, r4, r5)) ∧ Aside0 (kq ≤ k) ∧ Aside0 (Kd.R k70 70 w' w.heap.size (fun _ => True) u308000 x308000_1) ∧ Aside0 (w'.heap[gb305]? = some (.cells #[.int .u64 x306000_1, .int .u64 x306001_1] 34 (0, 0))) ∧ Aside0 (w'.heap[gb306]? = some (.cells #[(.slice none 0 0), .int .u64 0, .int .u64 0, .int .i64 0, .int .i64 0] 72 (0, 0))) ∧ Aside0 (w'.heap[gb307]? = some (.cells #[u308000, .int .u64 0, .int .u64 0, .int .i64 x308003_1, .int .i64 x308004_1] 72 (0, 0))) ∧ Aside0 (Below w.heap.size w w'))
 case atStart => exact ⟨(0), (a0_0), (a0_1), (([] : List (S70))), (0), (0), (.slice none 0 0), (by first | rfl | (simp; done) | (simp [*]; done)), H', ⟨Nat.le_refl _⟩, ⟨by first | exact Kd.R_nil _ _ _ _ _ | exact Kd.N_nil _ _ _ _ _ | exact Kd.V_nil _ _ _ _ _ | exact Kd.Q_nil _ _ _ _ _ | exact Kd.S_nil _ _ _ _ _⟩, ⟨by (with_reducible repeat (first | refine blk_drewN ?_ _ | refine blk_drew ?_ | refine blk_alloc ?_ _)); exact BK305.out⟩, ⟨by (with_reducible repeat (first | refine blk_drewN ?_ _ | refine blk_drew ?_ | refine blk_alloc ?_ _)); exact BK306.out⟩, ⟨by (with_reducible repeat (first | refine blk_drewN ?_ _ | refine blk_drew ?_ | refine blk_alloc ?_ _)); exact BK307.out⟩, ⟨by repeat (first | (with_reducible first | exact HB.out | apply below_alloc | apply pw_below_drewN | apply below_drew1 | refine below_set ?_ GE305.out | refine below_set ?_ GE306.out | refine below_set ?_ GE307.out) | exact HB.out)⟩⟩
 case round =>
  clear H'
  try clear c1
  try clear p2
  obtain ⟨x12_1, x306000_1, x306001_1, x308000_1, x308003_1, x308004_1, u308000, rfl, HA, HK1, HO_308000, BK305, BK306, BK307, HB⟩ := hrel
  cases gk with
  | zero => exact absurd HA.out (by simp [spec_proofOf.l0])
  | succ k1 =>
   have H := HA.out
   clear HA
   simp only [spec_proofOf.l0] at H
   by_cases c6 : x12_1 < (l1.length : Int)
   ·rw [if_pos c6] at H
    have c6b0 : decide (x12_1 < (l1.length : Int)) = true := decide_eq_true c6
    clear c6
    by_cases c7 : 0 ≤ x12_1
    ·rw [if_pos c7] at H
     have c7b0 : decide (0 ≤ x12_1) = true := decide_eq_true c7
     clear c7
     by_cases c8 : x12_1 < (l1.length : Int)
     ·rw [if_pos c8] at H
      have c8b0 : decide (x12_1 < (l1.length : Int)) = true := decide_eq_true c8
      clear c8
      by_cases c9 : ((rd_T34 l1 x12_1).f1) = x306000_1
      ·rw [if_pos c9] at H
       have c9b0 : (((rd_T34 l1 x12_1).f1) == x306000_1) = true := beq_iff_eq.mpr c9
       have c9b1 : (((rd_T34 l1 x12_1).f1) != x306000_1) = false := bne_eq_false_iff_eq.mpr c9
       clear c9
       replace H := Option.bind_eq_some_iff.mp H
       obtain ⟨⟨t310, t311⟩, A100, H⟩ := H
       replace H : (if x308000_1.length < 8796093022208 then (spec_proofOf.l0 k1 l1 (l1.length : Int) (wrap64 (x12_1 + 1)) ((rd_T34 l1 x12_1).f0) x306001_1 (x308000_1 ++ [(⟨t310, t311⟩ : S70)]) 0 0 x308003_1 x308004_1) else (none)) = some (r1, r2, r3, r4, r5) := H
       have A10 := Aside0.mk A100
       clear A100
       by_cases c11 : x308000_1.length < 8796093022208
       ·rw [if_pos c11] at H
        have LMc11 := Aside0.mk c11
        clear c11
        obtain ⟨y312, hy312⟩ : ∃ y_ : List (S70), y_ = (x308000_1 ++ [(⟨t310, t311⟩ : S70)]) := ⟨_, rfl⟩
        replace H : (spec_proofOf.l0 k1 l1 (l1.length : Int) (wrap64 (x12_1 + 1)) ((rd_T34 l1 x12_1).f0) x306001_1 y312 0 0 x308003_1 x308004_1) = some (r1, r2, r3, r4, r5) := by first | (rw [hy312]; with_reducible exact H) | (have H2_ := (Option.bind_some _ _).symm.trans H; rw [hy312]; with_reducible exact H2_) | (have H2_ := (Option.bind_some _ _).symm.trans H; with_reducible exact H2_) | with_reducible exact H | (rw [hy312]; exact H) | exact H
        have Ny312 := Aside0.mk hy312
        clear hy312
        have H' := Aside0.mk H
        clear H
        have p308 : 0 ≤ (x12_1 : Int) := of_decide_eq_true (by first | (with_reducible assumption) | assumption)
        have q308 : x12_1 < (l1.length : Int) := of_decide_eq_true (by first | (with_reducible assumption) | assumption)
        obtain ⟨ad308, e308, hx308_0, hx308_1⟩ := at_T34 HR1.out x12_1 p308 q308
        cases e308
        (try replace hx308_0 := (HB.out.cell (World.block_lt_of_cell? w _ hx308_0)).trans hx308_0)
        (try replace hx308_1 := (HB.out.cell (World.block_lt_of_cell? w _ hx308_1)).trans hx308_1)
        replace p308 := eq_true p308
        replace q308 := eq_true q308
        try go_wp2_with (first | ((with_reducible refine gate_dst (N := 7) rfl ?_); refine box_event ?hg (N := 7) ?hd (cs := #[.int .u64 0, .int .u64 0]) (t := 34) ?hr ?_; (case hd => rfl); (case hg => rfl); (case hr => first | (go_simp; done) | (go_simp; rfl)); intro gb309 hg w12 hbox hb; have n0_ := Aside0.mk (Kd.R_below (by (with_reducible repeat (first | apply Kd.R_alloc | apply Kd.R_drewN | apply Kd.R_drew)); exact HO_308000.out) hb); have n1_ := Aside0.mk (blk_below (g := gb305) (o := .cells #[.int .u64 x306000_1, .int .u64 x306001_1] 34 (0, 0)) (by (with_reducible repeat (first | refine blk_drewN ?_ _ | refine blk_drew ?_ | refine blk_alloc ?_ _)); exact BK305.out) hb); have n2_ := Aside0.mk (blk_below (g := gb306) (o := .cells #[.slice none 0 0, .int .u64 0, .int .u64 0, .int .i64 0, .int .i64 0] 72 (0, 0)) (by (with_reducible repeat (first | refine blk_drewN ?_ _ | refine blk_drew ?_ | refine blk_alloc ?_ _)); exact BK306.out) hb); have n3_ := Aside0.mk (blk_below (g := gb307) (o := .cells #[u308000, .int .u64 0, .int .u64 0, .int .i64 x308003_1, .int .i64 x308004_1] 72 (0, 0)) (by (with_reducible repeat (first | refine blk_drewN ?_ _ | refine blk_drew ?_ | refine blk_alloc ?_ _)); exact BK307.out) hb); have n4_ := Aside0.mk (below_step (by repeat (first | (with_reducible first | exact HB.out | apply below_alloc | apply pw_below_drewN | apply below_drew1 | refine below_set ?_ GE305.out | refine below_set ?_ GE306.out | refine below_set ?_ GE307.out) | exact HB.out)) hb); have n5_ := Aside0.mk (hbox); have n6_ := Aside0.mk ((by rw [hg]; exact (below_size (by repeat (first | (with_reducible first | exact HB.out | apply below_alloc | apply pw_below_drewN | apply below_drew1 | refine below_set ?_ GE305.out | refine below_set ?_ GE306.out | refine below_set ?_ GE307.out) | exact HB.out))) : w.heap.size ≤ gb309)); have n7_ := Aside0.mk ((by rw [hg]; exact (below_size (by repeat (first | (with_reducible first | exact HB.out | apply below_alloc | apply pw_below_drewN | apply below_drew1 | refine below_set ?_ GE305.out | refine below_set ?_ GE306.out | refine below_set ?_ GE307.out) | exact HB.out))) : w.heap.size ≤ gb309)); have n8_ := Aside0.mk ((by rw [hg]; exact Nat.ne_of_lt (blk_lt (g := gb305) (o := .cells #[.int .u64 x306000_1, .int .u64 x306001_1] 34 (0, 0)) (by (with_reducible repeat (first | refine blk_drewN ?_ _ | refine blk_drew ?_ | refine blk_alloc ?_ _)); exact BK305.out)) : gb305 ≠ gb309)); have n9_ := Aside0.mk ((by rw [hg]; exact Nat.ne_of_gt (blk_lt (g := gb305) (o := .cells #[.int .u64 x306000_1, .int .u64 x306001_1] 34 (0, 0)) (by (with_reducible repeat (first | refine blk_drewN ?_ _ | refine blk_drew ?_ | refine blk_alloc ?_ _)); exact BK305.out)) : gb309 ≠ gb305)); have n10_ := Aside0.mk ((by rw [hg]; exact Nat.ne_of_lt (blk_lt (g := gb306) (o := .cells #[.slice none 0 0, .int .u64 0, .int .u64 0, .int .i64 0, .int .i64 0] 72 (0, 0)) (by (with_reducible repeat (first | refine blk_drewN ?_ _ | refine blk_drew ?_ | refine blk_alloc ?_ _)); exact BK306.out)) : gb306 ≠ gb309)); have n11_ := Aside0.mk ((by rw [hg]; exact Nat.ne_of_gt (blk_lt (g := gb306) (o := .cells #[.slice none 0 0, .int .u64 0, .int .u64 0, .int .i64 0, .int .i64 0] 72 (0, 0)) (by (with_reducible repeat (first | refine blk_drewN ?_ _ | refine blk_drew ?_ | refine blk_alloc ?_ _)); exact BK306.out)) : gb309 ≠ gb306)); have n12_ := Aside0.mk ((by rw [hg]; exact Nat.ne_of_lt (blk_lt (g := gb307) (o := .cells #[u308000, .int .u64 0, .int .u64 0, .int .i64 x308003_1, .int .i64 x308004_1] 72 (0, 0)) (by (with_reducible repeat (first | refine blk_drewN ?_ _ | refine blk_drew ?_ | refine blk_alloc ?_ _)); exact BK307.out)) : gb307 ≠ gb309)); have n13_ := Aside0.mk ((by rw [hg]; exact Nat.ne_of_gt (blk_lt (g := gb307) (o := .cells #[u308000, .int .u64 0, .int .u64 0, .int .i64 x308003_1, .int .i64 x308004_1] 72 (0, 0)) (by (with_reducible repeat (first | refine blk_drewN ?_ _ | refine blk_drew ?_ | refine blk_alloc ?_ _)); exact BK307.out)) : gb309 ≠ gb307)); clear HO_308000; clear BK305; clear BK306; clear BK307; clear HB; have HO_308000 := n0_; have BK305 := n1_; have BK306 := n2_; have BK307 := n3_; have HB := n4_; have BK309 := n5_; have GW309 := n6_; have GE309 := n7_; have NB305_309 := n8_; have NB309_305 := n9_; have NB306_309 := n10_; have NB309_306 := n11_; have NB307_309 := n12_; have NB309_307 := n13_; clear n0_ n1_ n2_ n3_ n4_ n5_ n6_ n7_ n8_ n9_ n10_ n11_ n12_ n13_; clear hb hbox hg; have hnb13 := NB309_305.out; have hnc13 := NB305_309.out; have hnb14 := NB309_306.out; have hnc14 := NB306_309.out; have hnb15 := NB309_307.out; have hnc15 := NB307_309.out; have hcz16_0 : w12.cell? ⟨gb309, 0, none⟩ = some (.int .u64 0) := (blk_cell BK309.out 0).trans rfl; have hcz16_1 : w12.cell? ⟨gb309, 1, none⟩ = some (.int .u64 0) := (blk_cell BK309.out 1).trans rfl; have hfz16_0 := blk_frozen BK309.out 0; have hfz16_1 := blk_frozen BK309.out 1; have hnb17 := NB305_306.out; have hnc17 := NB306_305.out; have hnb18 := NB305_307.out; have hnc18 := NB307_305.out; have hcz19_0 : w12.cell? ⟨gb305, 0, none⟩ = some (.int .u64 x306000_1) := (blk_cell BK305.out 0).trans rfl; have hcz19_1 : w12.cell? ⟨gb305, 1, none⟩ = some (.int .u64 x306001_1) := (blk_cell BK305.out 1).trans rfl; have hfz19_0 := blk_frozen BK305.out 0; have hfz19_1 := blk_frozen BK305.out 1))
        have n0_ : Aside0 (Kd.R k70 70 ((w12.setCell ⟨gb309, 0, none⟩ (.int .u64 ((rd_T34 l1 x12_1).f0))).setCell ⟨gb309, 1, none⟩ (.int .u64 ((rd_T34 l1 x12_1).f1))) w.heap.size (fun _ => True) u308000 x308000_1) := ⟨by (with_reducible repeat (first | apply Kd.R_alloc | apply Kd.R_drewN | apply Kd.R_drew)); exact Kd.R_mono (Kd.R_far (p := ⟨gb309, 1, none⟩) (Kd.R_far (p := ⟨gb309, 0, none⟩) (Kd.R_types HO_308000.out BK309.out (by decide)) (fun _ hk => hk.2) (.int .u64 ((rd_T34 l1 x12_1).f0))) (fun _ hk => hk.2) (.int .u64 ((rd_T34 l1 x12_1).f1))) (fun _ hk => trivial)⟩
        have n1_ : Aside0 (((w12.setCell ⟨gb309, 0, none⟩ (.int .u64 ((rd_T34 l1 x12_1).f0))).setCell ⟨gb309, 1, none⟩ (.int .u64 ((rd_T34 l1 x12_1).f1))).heap[gb305]? = some (.cells #[.int .u64 x306000_1, .int .u64 x306001_1] 34 (0, 0))) := ⟨by (with_reducible repeat (first | refine blk_drewN ?_ _ | refine blk_drew ?_ | refine blk_alloc ?_ _)); refine blk_far ?_ NB305_309.out _; (with_reducible repeat (first | refine blk_drewN ?_ _ | refine blk_drew ?_ | refine blk_alloc ?_ _)); refine blk_far ?_ NB305_309.out _; (with_reducible repeat (first | refine blk_drewN ?_ _ | refine blk_drew ?_ | refine blk_alloc ?_ _)); exact BK305.out⟩
        have n2_ : Aside0 (((w12.setCell ⟨gb309, 0, none⟩ (.int .u64 ((rd_T34 l1 x12_1).f0))).setCell ⟨gb309, 1, none⟩ (.int .u64 ((rd_T34 l1 x12_1).f1))).heap[gb306]? = some (.cells #[.slice none 0 0, .int .u64 0, .int .u64 0, .int .i64 0, .int .i64 0] 72 (0, 0))) := ⟨by (with_reducible repeat (first | refine blk_drewN ?_ _ | refine blk_drew ?_ | refine blk_alloc ?_ _)); refine blk_far ?_ NB306_309.out _; (with_reducible repeat (first | refine blk_drewN ?_ _ | refine blk_drew ?_ | refine blk_alloc ?_ _)); refine blk_far ?_ NB306_309.out _; (with_reducible repeat (first | refine blk_drewN ?_ _ | refine blk_drew ?_ | refine blk_alloc ?_ _)); exact BK306.out⟩
        have n3_ : Aside0 (((w12.setCell ⟨gb309, 0, none⟩ (.int .u64 ((rd_T34 l1 x12_1).f0))).setCell ⟨gb309, 1, none⟩ (.int .u64 ((rd_T34 l1 x12_1).f1))).heap[gb307]? = some (.cells #[u308000, .int .u64 0, .int .u64 0, .int .i64 x308003_1, .int .i64 x308004_1] 72 (0, 0))) := ⟨by (with_reducible repeat (first | refine blk_drewN ?_ _ | refine blk_drew ?_ | refine blk_alloc ?_ _)); refine blk_far ?_ NB307_309.out _; (with_reducible repeat (first | refine blk_drewN ?_ _ | refine blk_drew ?_ | refine blk_alloc ?_ _)); refine blk_far ?_ NB307_309.out _; (with_reducible repeat (first | refine blk_drewN ?_ _ | refine blk_drew ?_ | refine blk_alloc ?_ _)); exact BK307.out⟩
        have n4_ : Aside0 (((w12.setCell ⟨gb309, 0, none⟩ (.int .u64 ((rd_T34 l1 x12_1).f0))).setCell ⟨gb309, 1, none⟩ (.int .u64 ((rd_T34 l1 x12_1).f1))).heap[gb309]? = some (.cells #[.int .u64 ((rd_T34 l1 x12_1).f0), .int .u64 ((rd_T34 l1 x12_1).f1)] 34 (0, 0))) := ⟨by (with_reducible repeat (first | refine blk_drewN ?_ _ | refine blk_drew ?_ | refine blk_alloc ?_ _)); refine blk_put (cs := #[.int .u64 ((rd_T34 l1 x12_1).f0), .int .u64 0]) ?_ 1 _ rfl; (with_reducible repeat (first | refine blk_drewN ?_ _ | refine blk_drew ?_ | refine blk_alloc ?_ _)); refine blk_put (cs := #[.int .u64 0, .int .u64 0]) ?_ 0 _ rfl; (with_reducible repeat (first | refine blk_drewN ?_ _ | refine blk_drew ?_ | refine blk_alloc ?_ _)); exact BK309.out⟩
        have n5_ : Aside0 (Below w.heap.size w ((w12.setCell ⟨gb309, 0, none⟩ (.int .u64 ((rd_T34 l1 x12_1).f0))).setCell ⟨gb309, 1, none⟩ (.int .u64 ((rd_T34 l1 x12_1).f1)))) := ⟨by repeat (first | (with_reducible first | exact HB.out | apply below_alloc | apply pw_below_drewN | apply below_drew1 | refine below_set ?_ GE305.out | refine below_set ?_ GE306.out | refine below_set ?_ GE307.out | refine below_set ?_ GE309.out) | exact HB.out)⟩
        (try clear HO_308000)
        (try clear BK305)
        (try clear BK306)
        (try clear BK307)
        (try clear BK309)
        (try clear HB)
        generalize ((w12.setCell ⟨gb309, 0, none⟩ (.int .u64 ((rd_T34 l1 x12_1).f0))).setCell ⟨gb309, 1, none⟩ (.int .u64 ((rd_T34 l1 x12_1).f1))) = w20 at n0_ n1_ n2_ n3_ n4_ n5_ ⊢
        have HO_308000 := n0_
        have BK305 := n1_
        have BK306 := n2_
        have BK307 := n3_
        have BK309 := n4_
        have HB := n5_
        clear n0_ n1_ n2_ n3_ n4_ n5_
        have n0_ := Aside0.mk (Kd.R_drew HO_308000.out)
        have n1_ := Aside0.mk (blk_drew BK305.out)
        have n2_ := Aside0.mk (blk_drew BK306.out)
        have n3_ := Aside0.mk (blk_drew BK307.out)
        have n4_ := Aside0.mk (blk_drew BK309.out)
        have n5_ := Aside0.mk (below_drew1 HB.out)
        clear HO_308000
        clear BK305
        clear BK306
        clear BK307
        clear BK309
        clear HB
        have HO_308000 := n0_
        have BK305 := n1_
        have BK306 := n2_
        have BK307 := n3_
        have BK309 := n4_
        have HB := n5_
        clear n0_ n1_ n2_ n3_ n4_ n5_
        refine start_ (n := 8) (S := fun w' => w'.cell? ⟨gb307, 0, none⟩ = some (u308000) ∧ w'.cell? ⟨gb307, 1, none⟩ = some (.int .u64 0) ∧ w'.cell? ⟨gb307, 2, none⟩ = some (.int .u64 0) ∧ w'.cell? ⟨gb307, 3, none⟩ = some (.int .i64 x308003_1) ∧ w'.cell? ⟨gb307, 4, none⟩ = some (.int .i64 x308004_1) ∧ w'.cell? ⟨gb309, 0, none⟩ = some (.int .u64 ((rd_T34 l1 x12_1).f0)) ∧ w'.cell? ⟨gb309, 1, none⟩ = some (.int .u64 ((rd_T34 l1 x12_1).f1))) (ds := [7]) #[false, false, false, false, false, false, false, false] (by kernel_rfl) rfl rfl ⟨(blk_cell BK307.out 0).trans rfl, (blk_cell BK307.out 1).trans rfl, (blk_cell BK307.out 2).trans rfl, (blk_cell BK307.out 3).trans rfl, (blk_cell BK307.out 4).trans rfl, (blk_cell BK309.out 0).trans rfl, (blk_cell BK309.out 1).trans rfl⟩ (fun hHeld => ?_); refine with_tabW spec_proofOf.tab6 spec_proofOf.bits6 (fun HT_ HW_ => ?_)
        generalize w20.drew = w21 at HO_308000 BK305 BK306 BK307 BK309 HB hHeld ⊢
        refine pure_ (i := 0) (N := some 21) (v := ?_) (a' := ?_) #[true, false, false, false, false, false, false, false] rfl rfl (any_of HT_.out (by kernel_rfl)) (fun _ _ _ h => h) (Or.inl ⟨by rfl, ?_⟩) ?_ ?_
        rotate_left
        ·intro w'
         go_simp
         with_reducible rfl
        rotate_left
        ·simp only [Act.put, List.setIfInBounds_toArray, List.set_cons_zero, List.set_cons_succ, i64_w, i32_w]
         rfl
        refine take_ (i := 1) (N := some 22) (v := ?_) (a' := ?_) #[true, true, false, false, false, false, false, false] rfl rfl (take_ofW HT_.out HW_.out (by kernel_rfl)) (fun _ _ _ h => h) (Or.inl ⟨by rfl, ?_⟩) hHeld ?_ ?_
        rotate_left
        ·rintro w' ⟨s0, s1, s2, s3, s4, s5, s6⟩
         go_simp
         with_reducible rfl
        rotate_left
        ·simp only [Act.put, List.setIfInBounds_toArray, List.set_cons_zero, List.set_cons_succ, i64_w, i32_w]
         rfl
        refine take_ (i := 2) (N := some 23) (v := ?_) (a' := ?_) #[true, true, true, false, false, false, false, false] rfl rfl (take_ofW HT_.out HW_.out (by kernel_rfl)) (fun _ _ _ h => h) (Or.inl ⟨by rfl, ?_⟩) hHeld ?_ ?_
        rotate_left
        ·rintro w' ⟨s0, s1, s2, s3, s4, s5, s6⟩
         go_simp
         with_reducible rfl
        rotate_left
        ·simp only [Act.put, List.setIfInBounds_toArray, List.set_cons_zero, List.set_cons_succ, i64_w, i32_w]
         rfl
        refine one_ (i := 3) (N := some 24) #[true, true, true, true, false, false, false, false] rfl rfl (one_of HT_.out (by kernel_rfl)) (by decide) (fun K hK => ?_)
        refine goes_ Tryd.func128 (by kernel_rfl) rfl #[.agg #[.int .u64 ((rd_T34 l1 x12_1).f0), .int .u64 ((rd_T34 l1 x12_1).f1)]] (by rfl) rfl rfl (by (try simp only [List.map_toArray, List.map_cons, List.map_nil]); first | done | rfl | (simp only [List.length_drop, List.length_take]; rfl)) ?_
        with_reducible refine (spec_NodeOf.calls k1 ((rd_T34 l1 x12_1).f0) ((rd_T34 l1 x12_1).f1) t310 t311 _ A10.out).mono ?_
        rintro e w22 ⟨rfl, hb⟩
        refine ⟨_, rfl, ?_⟩
        have n0_ := Aside0.mk (Kd.R_below (by (with_reducible repeat (first | apply Kd.R_alloc | apply Kd.R_drewN | apply Kd.R_drew)); exact HO_308000.out) hb)
        have n1_ := Aside0.mk (blk_below (g := gb305) (o := .cells #[.int .u64 x306000_1, .int .u64 x306001_1] 34 (0, 0)) (by (with_reducible repeat (first | refine blk_drewN ?_ _ | refine blk_drew ?_ | refine blk_alloc ?_ _)); exact BK305.out) hb)
        have n2_ := Aside0.mk (blk_below (g := gb306) (o := .cells #[.slice none 0 0, .int .u64 0, .int .u64 0, .int .i64 0, .int .i64 0] 72 (0, 0)) (by (with_reducible repeat (first | refine blk_drewN ?_ _ | refine blk_drew ?_ | refine blk_alloc ?_ _)); exact BK306.out) hb)
        have n3_ := Aside0.mk (blk_below (g := gb307) (o := .cells #[u308000, .int .u64 0, .int .u64 0, .int .i64 x308003_1, .int .i64 x308004_1] 72 (0, 0)) (by (with_reducible repeat (first | refine blk_drewN ?_ _ | refine blk_drew ?_ | refine blk_alloc ?_ _)); exact BK307.out) hb)
        have n4_ := Aside0.mk (blk_below (g := gb309) (o := .cells #[.int .u64 ((rd_T34 l1 x12_1).f0), .int .u64 ((rd_T34 l1 x12_1).f1)] 34 (0, 0)) (by (with_reducible repeat (first | refine blk_drewN ?_ _ | refine blk_drew ?_ | refine blk_alloc ?_ _)); exact BK309.out) hb)
        have n5_ := Aside0.mk (below_step (by repeat (first | (with_reducible first | exact HB.out | apply below_alloc | apply pw_below_drewN | apply below_drew1 | refine below_set ?_ GE305.out | refine below_set ?_ GE306.out | refine below_set ?_ GE307.out | refine below_set ?_ GE309.out) | exact HB.out)) hb)
        clear HO_308000
        clear BK305
        clear BK306
        clear BK307
        clear BK309
        clear HB
        have HO_308000 := n0_
        have BK305 := n1_
        have BK306 := n2_
        have BK307 := n3_
        have BK309 := n4_
        have HB := n5_
        clear n0_ n1_ n2_ n3_ n4_ n5_
        (try clear hb)
        (try clear hb2)
        (try clear hk)
        (try clear hi)
        refine hK.out _ _ ⟨(blk_cell BK307.out 0).trans rfl, (blk_cell BK307.out 1).trans rfl, (blk_cell BK307.out 2).trans rfl, (blk_cell BK307.out 3).trans rfl, (blk_cell BK307.out 4).trans rfl, (blk_cell BK309.out 0).trans rfl, (blk_cell BK309.out 1).trans rfl⟩ (fun hHeld => ?_)
        clear hK K
        refine norm_ (a' := ?_) ?_ ?_
        rotate_left
        ·show Act.put _ (some 24) _ = _
         simp only [Act.put, List.setIfInBounds_toArray, List.set_cons_zero, List.set_cons_succ, i64_w, i32_w]
         rfl
        refine one_ (i := 4) (N := some 25) #[true, true, true, true, true, false, false, false] rfl rfl (one_of HT_.out (by kernel_rfl)) (by decide) (fun K hK => ?_)
        refine value_ (w1 := ?_) (v := ?_) (by rfl) rfl ?_ ?_
        rotate_left 2
        ·go_simp
         constructor
         ·rfl
         ·rfl
        refine hK.out _ _ ⟨(blk_cell (blk_alloc BK307.out _) 0).trans rfl, (blk_cell (blk_alloc BK307.out _) 1).trans rfl, (blk_cell (blk_alloc BK307.out _) 2).trans rfl, (blk_cell (blk_alloc BK307.out _) 3).trans rfl, (blk_cell (blk_alloc BK307.out _) 4).trans rfl, (blk_cell (blk_alloc BK309.out _) 0).trans rfl, (blk_cell (blk_alloc BK309.out _) 1).trans rfl⟩ (fun hHeld => ?_)
        clear hK K
        refine norm_ (a' := ?_) ?_ ?_
        rotate_left
        ·show Act.put _ (some 25) _ = _
         simp only [Act.put, List.setIfInBounds_toArray, List.set_cons_zero, List.set_cons_succ, i64_w, i32_w]
         rfl
        refine one_ (i := 5) (N := some 26) #[true, true, true, true, true, true, false, false] rfl rfl (one_of HT_.out (by kernel_rfl)) (by decide) (fun K hK => ?_)
        refine Kd.R_append_step k70 (w0 := w) w.heap.size (by rfl) (.tmp 22) (.tmp 25) 29 70 (.agg #[(.int .u64 0), (.int .u64 0)]) 16 rfl Tryd.underlying29 info70 rfl (by decide) (by omega) u308000 x308000_1 (⟨t310, t311⟩ : S70) [.int .u64 t310, .int .u64 t311] (fun _ => True) (fun _ => False) rfl rfl ?aP (fun _ hk => hk.elim) ?aF ?aO ?aB ?aS ?aL ?_
        (case aP => exact k70_mkM _ _ _ (⟨t310, t311⟩ : S70))
        (case aB => exact (by repeat (first | (with_reducible first | exact HB.out | apply below_alloc | apply pw_below_drewN | apply below_drew1 | refine below_set ?_ GE305.out | refine below_set ?_ GE306.out | refine below_set ?_ GE307.out | refine below_set ?_ GE309.out) | exact HB.out)))
        (case aF => exact (fun _ _ => trivial))
        (case aO => exact (by (with_reducible repeat (first | apply Kd.R_alloc | apply Kd.R_drewN | apply Kd.R_drew)); exact HO_308000.out))
        (case aS => exact (below_size (by repeat (first | (with_reducible first | exact HB.out | apply below_alloc | apply pw_below_drewN | apply below_drew1 | refine below_set ?_ GE305.out | refine below_set ?_ GE306.out | refine below_set ?_ GE307.out | refine below_set ?_ GE309.out) | exact HB.out))))
        (case aL => have := LMc11.out; omega)
        intro v313 w23 ho hb hg hat
        rw [← Ny312.out] at ho
        have n0_ := Aside0.mk (blk_grown (g := gb305) (o := .cells #[.int .u64 x306000_1, .int .u64 x306001_1] 34 (0, 0)) (by (with_reducible repeat (first | refine blk_drewN ?_ _ | refine blk_drew ?_ | refine blk_alloc ?_ _)); exact BK305.out) hg (Kd.R_ne HO_308000.out BK305.out (by decide)))
        have n1_ := Aside0.mk (blk_grown (g := gb306) (o := .cells #[.slice none 0 0, .int .u64 0, .int .u64 0, .int .i64 0, .int .i64 0] 72 (0, 0)) (by (with_reducible repeat (first | refine blk_drewN ?_ _ | refine blk_drew ?_ | refine blk_alloc ?_ _)); exact BK306.out) hg (Kd.R_ne HO_308000.out BK306.out (by decide)))
        have n2_ := Aside0.mk (blk_grown (g := gb307) (o := .cells #[u308000, .int .u64 0, .int .u64 0, .int .i64 x308003_1, .int .i64 x308004_1] 72 (0, 0)) (by (with_reducible repeat (first | refine blk_drewN ?_ _ | refine blk_drew ?_ | refine blk_alloc ?_ _)); exact BK307.out) hg (Kd.R_ne HO_308000.out BK307.out (by decide)))
        have n3_ := Aside0.mk (blk_grown (g := gb309) (o := .cells #[.int .u64 ((rd_T34 l1 x12_1).f0), .int .u64 ((rd_T34 l1 x12_1).f1)] 34 (0, 0)) (by (with_reducible repeat (first | refine blk_drewN ?_ _ | refine blk_drew ?_ | refine blk_alloc ?_ _)); exact BK309.out) hg (Kd.R_ne HO_308000.out BK309.out (by decide)))
        have n4_ := Aside0.mk (hb)
        have n5_ := Aside0.mk (ho)
        clear BK305
        clear BK306
        clear BK307
        clear BK309
        clear HB
        clear HO_308000
        have BK305 := n0_
        have BK306 := n1_
        have BK307 := n2_
        have BK309 := n3_
        have HB := n4_
        have HO314 := n5_
        clear n0_ n1_ n2_ n3_ n4_ n5_
        clear ho hb hg hat
        obtain ⟨Ao24, co24, eo24⟩ := Kd.R_slice HO314.out
        (first | subst eo24 | (injection eo24 with f1_ f2_ f3_; have f4_ := f1_.symm; have f5_ := f3_.symm; clear f1_ f2_ f3_; subst f4_; subst f5_))
        refine hK.out _ _ ⟨(blk_cell BK307.out 0).trans rfl, (blk_cell BK307.out 1).trans rfl, (blk_cell BK307.out 2).trans rfl, (blk_cell BK307.out 3).trans rfl, (blk_cell BK307.out 4).trans rfl, (blk_cell BK309.out 0).trans rfl, (blk_cell BK309.out 1).trans rfl⟩ (fun hHeld => ?_)
        clear hK K
        refine norm_ (a' := ?_) ?_ ?_
        rotate_left
        ·show Act.put _ (some 26) _ = _
         simp only [Act.put, List.setIfInBounds_toArray, List.set_cons_zero, List.set_cons_succ, i64_w, i32_w]
         rfl
        refine pure_ (i := 6) (N := some 27) (v := ?_) (a' := ?_) #[true, true, true, true, true, true, true, false] rfl rfl (any_of HT_.out (by kernel_rfl)) (fun _ _ _ h => h) (Or.inl ⟨by rfl, ?_⟩) ?_ ?_
        rotate_left
        ·intro w'
         go_simp
         with_reducible rfl
        rotate_left
        ·simp only [Act.put, List.setIfInBounds_toArray, List.set_cons_zero, List.set_cons_succ, i64_w, i32_w]
         rfl
        refine last_ (i := 7) (N := none) #[true, true, true, true, true, true, true, true] rfl rfl (one_of HT_.out (by kernel_rfl)) (by decide) (fun K hK => ?_)
        have hs25 : w23.cell? ⟨gb307, 0, none⟩ = some (u308000) := (blk_cell BK307.out 0).trans rfl
        have hfs25 := blk_frozen BK307.out 0
        have hns25_0 := NB305_307.out
        have hns25_1 := NB306_307.out
        have hns25_3 := NB309_307.out
        have hms25_0 := NB307_305.out
        have hms25_1 := NB307_306.out
        have hms25_3 := NB307_309.out
        refine skip_ (w1 := ?_) (by rfl) rfl ?_ ?_
        rotate_left
        ·go_simp
         rfl
        refine hK.out _ _ ?_
        clear hK K
        refine done_ (done_of HT_.out (by kernel_rfl)) ?_
        have hcz26_0 : w23.cell? ⟨gb309, 0, none⟩ = some (.int .u64 ((rd_T34 l1 x12_1).f0)) := (blk_cell BK309.out 0).trans rfl
        have hcz26_1 : w23.cell? ⟨gb309, 1, none⟩ = some (.int .u64 ((rd_T34 l1 x12_1).f1)) := (blk_cell BK309.out 1).trans rfl
        have hfz26_0 := blk_frozen BK309.out 0
        have hfz26_1 := blk_frozen BK309.out 1
        have hcz27_0 : w23.cell? ⟨gb305, 0, none⟩ = some (.int .u64 x306000_1) := (blk_cell BK305.out 0).trans rfl
        have hcz27_1 : w23.cell? ⟨gb305, 1, none⟩ = some (.int .u64 x306001_1) := (blk_cell BK305.out 1).trans rfl
        have hfz27_0 := blk_frozen BK305.out 0
        have hfz27_1 := blk_frozen BK305.out 1
        try go_wp2
        go_roundg k1
        case measure => have := HK1.out; omega
        case rel => exact ⟨(wrap64 (x12_1 + 1)), ((rd_T34 l1 x12_1).f0), (x306001_1), (y312), (x308003_1), (x308004_1), (.slice Ao24 y312.length co24), (by first | rfl | (simp; done) | (simp [*]; done)), H', ⟨by have := HK1.out; omega⟩, ⟨by (with_reducible repeat (first | apply Kd.R_alloc | apply Kd.R_drewN | apply Kd.R_drew)); exact Kd.R_mono (Kd.R_far (p := ⟨gb305, 0, none⟩) (Kd.R_far (p := ⟨gb307, 0, none⟩) (Kd.R_types (Kd.R_types HO314.out BK307.out (by decide)) BK305.out (by decide)) (fun _ hk => hk.1.2) (.slice Ao24 y312.length co24)) (fun _ hk => hk.2) (.int .u64 ((rd_T34 l1 x12_1).f0))) (fun _ hk => trivial)⟩, ⟨by (with_reducible repeat (first | refine blk_drewN ?_ _ | refine blk_drew ?_ | refine blk_alloc ?_ _)); refine blk_put (cs := #[.int .u64 x306000_1, .int .u64 x306001_1]) ?_ 0 _ rfl; (with_reducible repeat (first | refine blk_drewN ?_ _ | refine blk_drew ?_ | refine blk_alloc ?_ _)); refine blk_far ?_ NB305_307.out _; (with_reducible repeat (first | refine blk_drewN ?_ _ | refine blk_drew ?_ | refine blk_alloc ?_ _)); exact BK305.out⟩, ⟨by (with_reducible repeat (first | refine blk_drewN ?_ _ | refine blk_drew ?_ | refine blk_alloc ?_ _)); refine blk_far ?_ NB306_305.out _; (with_reducible repeat (first | refine blk_drewN ?_ _ | refine blk_drew ?_ | refine blk_alloc ?_ _)); refine blk_far ?_ NB306_307.out _; (with_reducible repeat (first | refine blk_drewN ?_ _ | refine blk_drew ?_ | refine blk_alloc ?_ _)); exact BK306.out⟩, ⟨by (with_reducible repeat (first | refine blk_drewN ?_ _ | refine blk_drew ?_ | refine blk_alloc ?_ _)); refine blk_far ?_ NB307_305.out _; (with_reducible repeat (first | refine blk_drewN ?_ _ | refine blk_drew ?_ | refine blk_alloc ?_ _)); refine blk_put (cs := #[u308000, .int .u64 0, .int .u64 0, .int .i64 x308003_1, .int .i64 x308004_1]) ?_ 0 _ rfl; (with_reducible repeat (first | refine blk_drewN ?_ _ | refine blk_drew ?_ | refine blk_alloc ?_ _)); exact BK307.out⟩, ⟨by repeat (first | (with_reducible first | exact HB.out | apply below_alloc | apply pw_below_drewN | apply below_drew1 | refine below_set ?_ GE305.out | refine below_set ?_ GE306.out | refine below_set ?_ GE307.out | refine below_set ?_ GE309.out) | exact HB.out)⟩⟩
       ·rw [if_neg c11] at H
        exact absurd H (by simp)
      ·rw [if_neg c9] at H
       have c9b0 : (((rd_T34 l1 x12_1).f1) == x306000_1) = false := beq_eq_false_iff_ne.mpr c9
       have c9b1 : (((rd_T34 l1 x12_1).f1) != x306000_1) = true := bne_iff_ne.mpr c9
       by_cases c28 : (IntKind.u64.wrap (((rd_T34 l1 x12_1).f1) - ((rd_T34 l1 x12_1).f0))) = (IntKind.u64.wrap (x306001_1 - x306000_1))
       ·rw [if_pos c28] at H
        have c28b0 : ((IntKind.u64.wrap (((rd_T34 l1 x12_1).f1) - ((rd_T34 l1 x12_1).f0))) == (IntKind.u64.wrap (x306001_1 - x306000_1))) = true := beq_iff_eq.mpr c28
        have c28b1 : ((IntKind.u64.wrap (((rd_T34 l1 x12_1).f1) - ((rd_T34 l1 x12_1).f0))) != (IntKind.u64.wrap (x306001_1 - x306000_1))) = false := bne_eq_false_iff_eq.mpr c28
        clear c28
        replace H := Option.bind_eq_some_iff.mp H
        obtain ⟨⟨t315, t316⟩, A290, H⟩ := H
        replace H : (if x308000_1.length < 8796093022208 then (spec_proofOf.l0 k1 l1 (l1.length : Int) (wrap64 (x12_1 + 1)) x306000_1 ((rd_T34 l1 x12_1).f1) (x308000_1 ++ [(⟨t315, t316⟩ : S70)]) 0 0 x308003_1 x308004_1) else (none)) = some (r1, r2, r3, r4, r5) := H
        have A29 := Aside0.mk A290
        clear A290
        by_cases c30 : x308000_1.length < 8796093022208
        ·rw [if_pos c30] at H
         have LMc30 := Aside0.mk c30
         clear c30
         obtain ⟨y317, hy317⟩ : ∃ y_ : List (S70), y_ = (x308000_1 ++ [(⟨t315, t316⟩ : S70)]) := ⟨_, rfl⟩
         replace H : (spec_proofOf.l0 k1 l1 (l1.length : Int) (wrap64 (x12_1 + 1)) x306000_1 ((rd_T34 l1 x12_1).f1) y317 0 0 x308003_1 x308004_1) = some (r1, r2, r3, r4, r5) := by first | (rw [hy317]; with_reducible exact H) | (have H2_ := (Option.bind_some _ _).symm.trans H; rw [hy317]; with_reducible exact H2_) | (have H2_ := (Option.bind_some _ _).symm.trans H; with_reducible exact H2_) | with_reducible exact H | (rw [hy317]; exact H) | exact H
         have Ny317 := Aside0.mk hy317
         clear hy317
         have H' := Aside0.mk H
         clear H
         have p308 : 0 ≤ (x12_1 : Int) := of_decide_eq_true (by first | (with_reducible assumption) | assumption)
         have q308 : x12_1 < (l1.length : Int) := of_decide_eq_true (by first | (with_reducible assumption) | assumption)
         obtain ⟨ad308, e308, hx308_0, hx308_1⟩ := at_T34 HR1.out x12_1 p308 q308
         cases e308
         (try replace hx308_0 := (HB.out.cell (World.block_lt_of_cell? w _ hx308_0)).trans hx308_0)
         (try replace hx308_1 := (HB.out.cell (World.block_lt_of_cell? w _ hx308_1)).trans hx308_1)
         replace p308 := eq_true p308
         replace q308 := eq_true q308
         try go_wp2_with (first | ((with_reducible refine gate_dst (N := 7) rfl ?_); refine box_event ?hg (N := 7) ?hd (cs := #[.int .u64 0, .int .u64 0]) (t := 34) ?hr ?_; (case hd => rfl); (case hg => rfl); (case hr => first | (go_simp; done) | (go_simp; rfl)); intro gb309 hg w31 hbox hb; have n0_ := Aside0.mk (Kd.R_below (by (with_reducible repeat (first | apply Kd.R_alloc | apply Kd.R_drewN | apply Kd.R_drew)); exact HO_308000.out) hb); have n1_ := Aside0.mk (blk_below (g := gb305) (o := .cells #[.int .u64 x306000_1, .int .u64 x306001_1] 34 (0, 0)) (by (with_reducible repeat (first | refine blk_drewN ?_ _ | refine blk_drew ?_ | refine blk_alloc ?_ _)); exact BK305.out) hb); have n2_ := Aside0.mk (blk_below (g := gb306) (o := .cells #[.slice none 0 0, .int .u64 0, .int .u64 0, .int .i64 0, .int .i64 0] 72 (0, 0)) (by (with_reducible repeat (first | refine blk_drewN ?_ _ | refine blk_drew ?_ | refine blk_alloc ?_ _)); exact BK306.out) hb); have n3_ := Aside0.mk (blk_below (g := gb307) (o := .cells #[u308000, .int .u64 0, .int .u64 0, .int .i64 x308003_1, .int .i64 x308004_1] 72 (0, 0)) (by (with_reducible repeat (first | refine blk_drewN ?_ _ | refine blk_drew ?_ | refine blk_alloc ?_ _)); exact BK307.out) hb); have n4_ := Aside0.mk (below_step (by repeat (first | (with_reducible first | exact HB.out | apply below_alloc | apply pw_below_drewN | apply below_drew1 | refine below_set ?_ GE305.out | refine below_set ?_ GE306.out | refine below_set ?_ GE307.out) | exact HB.out)) hb); have n5_ := Aside0.mk (hbox); have n6_ := Aside0.mk ((by rw [hg]; exact (below_size (by repeat (first | (with_reducible first | exact HB.out | apply below_alloc | apply pw_below_drewN | apply below_drew1 | refine below_set ?_ GE305.out | refine below_set ?_ GE306.out | refine below_set ?_ GE307.out) | exact HB.out))) : w.heap.size ≤ gb309)); have n7_ := Aside0.mk ((by rw [hg]; exact (below_size (by repeat (first | (with_reducible first | exact HB.out | apply below_alloc | apply pw_below_drewN | apply below_drew1 | refine below_set ?_ GE305.out | refine below_set ?_ GE306.out | refine below_set ?_ GE307.out) | exact HB.out))) : w.heap.size ≤ gb309)); have n8_ := Aside0.mk ((by rw [hg]; exact Nat.ne_of_lt (blk_lt (g := gb305) (o := .cells #[.int .u64 x306000_1, .int .u64 x306001_1] 34 (0, 0)) (by (with_reducible repeat (first | refine blk_drewN ?_ _ | refine blk_drew ?_ | refine blk_alloc ?_ _)); exact BK305.out)) : gb305 ≠ gb309)); have n9_ := Aside0.mk ((by rw [hg]; exact Nat.ne_of_gt (blk_lt (g := gb305) (o := .cells #[.int .u64 x306000_1, .int .u64 x306001_1] 34 (0, 0)) (by (with_reducible repeat (first | refine blk_drewN ?_ _ | refine blk_drew ?_ | refine blk_alloc ?_ _)); exact BK305.out)) : gb309 ≠ gb305)); have n10_ := Aside0.mk ((by rw [hg]; exact Nat.ne_of_lt (blk_lt (g := gb306) (o := .cells #[.slice none 0 0, .int .u64 0, .int .u64 0, .int .i64 0, .int .i64 0] 72 (0, 0)) (by (with_reducible repeat (first | refine blk_drewN ?_ _ | refine blk_drew ?_ | refine blk_alloc ?_ _)); exact BK306.out)) : gb306 ≠ gb309)); have n11_ := Aside0.mk ((by rw [hg]; exact Nat.ne_of_gt (blk_lt (g := gb306) (o := .cells #[.slice none 0 0, .int .u64 0, .int .u64 0, .int .i64 0, .int .i64 0] 72 (0, 0)) (by (with_reducible repeat (first | refine blk_drewN ?_ _ | refine blk_drew ?_ | refine blk_alloc ?_ _)); exact BK306.out)) : gb309 ≠ gb306)); have n12_ := Aside0.mk ((by rw [hg]; exact Nat.ne_of_lt (blk_lt (g := gb307) (o := .cells #[u308000, .int .u64 0, .int .u64 0, .int .i64 x308003_1, .int .i64 x308004_1] 72 (0, 0)) (by (with_reducible repeat (first | refine blk_drewN ?_ _ | refine blk_drew ?_ | refine blk_alloc ?_ _)); exact BK307.out)) : gb307 ≠ gb309)); have n13_ := Aside0.mk ((by rw [hg]; exact Nat.ne_of_gt (blk_lt (g := gb307) (o := .cells #[u308000, .int .u64 0, .int .u64 0, .int .i64 x308003_1, .int .i64 x308004_1] 72 (0, 0)) (by (with_reducible repeat (first | refine blk_drewN ?_ _ | refine blk_drew ?_ | refine blk_alloc ?_ _)); exact BK307.out)) : gb309 ≠ gb307)); clear HO_308000; clear BK305; clear BK306; clear BK307; clear HB; have HO_308000 := n0_; have BK305 := n1_; have BK306 := n2_; have BK307 := n3_; have HB := n4_; have BK309 := n5_; have GW309 := n6_; have GE309 := n7_; have NB305_309 := n8_; have NB309_305 := n9_; have NB306_309 := n10_; have NB309_306 := n11_; have NB307_309 := n12_; have NB309_307 := n13_; clear n0_ n1_ n2_ n3_ n4_ n5_ n6_ n7_ n8_ n9_ n10_ n11_ n12_ n13_; clear hb hbox hg; have hnb32 := NB309_305.out; have hnc32 := NB305_309.out; have hnb33 := NB309_306.out; have hnc33 := NB306_309.out; have hnb34 := NB309_307.out; have hnc34 := NB307_309.out; have hcz35_0 : w31.cell? ⟨gb309, 0, none⟩ = some (.int .u64 0) := (blk_cell BK309.out 0).trans rfl; have hcz35_1 : w31.cell? ⟨gb309, 1, none⟩ = some (.int .u64 0) := (blk_cell BK309.out 1).trans rfl; have hfz35_0 := blk_frozen BK309.out 0; have hfz35_1 := blk_frozen BK309.out 1; have hnb36 := NB305_306.out; have hnc36 := NB306_305.out; have hnb37 := NB305_307.out; have hnc37 := NB307_305.out; have hcz38_0 : w31.cell? ⟨gb305, 0, none⟩ = some (.int .u64 x306000_1) := (blk_cell BK305.out 0).trans rfl; have hcz38_1 : w31.cell? ⟨gb305, 1, none⟩ = some (.int .u64 x306001_1) := (blk_cell BK305.out 1).trans rfl; have hfz38_0 := blk_frozen BK305.out 0; have hfz38_1 := blk_frozen BK305.out 1))
         have n0_ : Aside0 (Kd.R k70 70 ((w31.setCell ⟨gb309, 0, none⟩ (.int .u64 ((rd_T34 l1 x12_1).f0))).setCell ⟨gb309, 1, none⟩ (.int .u64 ((rd_T34 l1 x12_1).f1))) w.heap.size (fun _ => True) u308000 x308000_1) := ⟨by (with_reducible repeat (first | apply Kd.R_alloc | apply Kd.R_drewN | apply Kd.R_drew)); exact Kd.R_mono (Kd.R_far (p := ⟨gb309, 1, none⟩) (Kd.R_far (p := ⟨gb309, 0, none⟩) (Kd.R_types HO_308000.out BK309.out (by decide)) (fun _ hk => hk.2) (.int .u64 ((rd_T34 l1 x12_1).f0))) (fun _ hk => hk.2) (.int .u64 ((rd_T34 l1 x12_1).f1))) (fun _ hk => trivial)⟩
         have n1_ : Aside0 (((w31.setCell ⟨gb309, 0, none⟩ (.int .u64 ((rd_T34 l1 x12_1).f0))).setCell ⟨gb309, 1, none⟩ (.int .u64 ((rd_T34 l1 x12_1).f1))).heap[gb305]? = some (.cells #[.int .u64 x306000_1, .int .u64 x306001_1] 34 (0, 0))) := ⟨by (with_reducible repeat (first | refine blk_drewN ?_ _ | refine blk_drew ?_ | refine blk_alloc ?_ _)); refine blk_far ?_ NB305_309.out _; (with_reducible repeat (first | refine blk_drewN ?_ _ | refine blk_drew ?_ | refine blk_alloc ?_ _)); refine blk_far ?_ NB305_309.out _; (with_reducible repeat (first | refine blk_drewN ?_ _ | refine blk_drew ?_ | refine blk_alloc ?_ _)); exact BK305.out⟩
         have n2_ : Aside0 (((w31.setCell ⟨gb309, 0, none⟩ (.int .u64 ((rd_T34 l1 x12_1).f0))).setCell ⟨gb309, 1, none⟩ (.int .u64 ((rd_T34 l1 x12_1).f1))).heap[gb306]? = some (.cells #[.slice none 0 0, .int .u64 0, .int .u64 0, .int .i64 0, .int .i64 0] 72 (0, 0))) := ⟨by (with_reducible repeat (first | refine blk_drewN ?_ _ | refine blk_drew ?_ | refine blk_alloc ?_ _)); refine blk_far ?_ NB306_309.out _; (with_reducible repeat (first | refine blk_drewN ?_ _ | refine blk_drew ?_ | refine blk_alloc ?_ _)); refine blk_far ?_ NB306_309.out _; (with_reducible repeat (first | refine blk_drewN ?_ _ | refine blk_drew ?_ | refine blk_alloc ?_ _)); exact BK306.out⟩
         have n3_ : Aside0 (((w31.setCell ⟨gb309, 0, none⟩ (.int .u64 ((rd_T34 l1 x12_1).f0))).setCell ⟨gb309, 1, none⟩ (.int .u64 ((rd_T34 l1 x12_1).f1))).heap[gb307]? = some (.cells #[u308000, .int .u64 0, .int .u64 0, .int .i64 x308003_1, .int .i64 x308004_1] 72 (0, 0))) := ⟨by (with_reducible repeat (first | refine blk_drewN ?_ _ | refine blk_drew ?_ | refine blk_alloc ?_ _)); refine blk_far ?_ NB307_309.out _; (with_reducible repeat (first | refine blk_drewN ?_ _ | refine blk_drew ?_ | refine blk_alloc ?_ _)); refine blk_far ?_ NB307_309.out _; (with_reducible repeat (first | refine blk_drewN ?_ _ | refine blk_drew ?_ | refine blk_alloc ?_ _)); exact BK307.out⟩
         have n4_ : Aside0 (((w31.setCell ⟨gb309, 0, none⟩ (.int .u64 ((rd_T34 l1 x12_1).f0))).setCell ⟨gb309, 1, none⟩ (.int .u64 ((rd_T34 l1 x12_1).f1))).heap[gb309]? = some (.cells #[.int .u64 ((rd_T34 l1 x12_1).f0), .int .u64 ((rd_T34 l1 x12_1).f1)] 34 (0, 0))) := ⟨by (with_reducible repeat (first | refine blk_drewN ?_ _ | refine blk_drew ?_ | refine blk_alloc ?_ _)); refine blk_put (cs := #[.int .u64 ((rd_T34 l1 x12_1).f0), .int .u64 0]) ?_ 1 _ rfl; (with_reducible repeat (first | refine blk_drewN ?_ _ | refine blk_drew ?_ | refine blk_alloc ?_ _)); refine blk_put (cs := #[.int .u64 0, .int .u64 0]) ?_ 0 _ rfl; (with_reducible repeat (first | refine blk_drewN ?_ _ | refine blk_drew ?_ | refine blk_alloc ?_ _)); exact BK309.out⟩
         have n5_ : Aside0 (Below w.heap.size w ((w31.setCell ⟨gb309, 0, none⟩ (.int .u64 ((rd_T34 l1 x12_1).f0))).setCell ⟨gb309, 1, none⟩ (.int .u64 ((rd_T34 l1 x12_1).f1)))) := ⟨by repeat (first | (with_reducible first | exact HB.out | apply below_alloc | apply pw_below_drewN | apply below_drew1 | refine below_set ?_ GE305.out | refine below_set ?_ GE306.out | refine below_set ?_ GE307.out | refine below_set ?_ GE309.out) | exact HB.out)⟩
         (try clear HO_308000)
         (try clear BK305)
         (try clear BK306)
         (try clear BK307)
         (try clear BK309)
         (try clear HB)
         generalize ((w31.setCell ⟨gb309, 0, none⟩ (.int .u64 ((rd_T34 l1 x12_1).f0))).setCell ⟨gb309, 1, none⟩ (.int .u64 ((rd_T34 l1 x12_1).f1))) = w39 at n0_ n1_ n2_ n3_ n4_ n5_ ⊢
         have HO_308000 := n0_
         have BK305 := n1_
         have BK306 := n2_
         have BK307 := n3_
         have BK309 := n4_
         have HB := n5_
         clear n0_ n1_ n2_ n3_ n4_ n5_
         have n0_ := Aside0.mk (Kd.R_drew HO_308000.out)
         have n1_ := Aside0.mk (blk_drew BK305.out)
         have n2_ := Aside0.mk (blk_drew BK306.out)
         have n3_ := Aside0.mk (blk_drew BK307.out)
         have n4_ := Aside0.mk (blk_drew BK309.out)
         have n5_ := Aside0.mk (below_drew1 HB.out)
         clear HO_308000
         clear BK305
         clear BK306
         clear BK307
         clear BK309
         clear HB
         have HO_308000 := n0_
         have BK305 := n1_
         have BK306 := n2_
         have BK307 := n3_
         have BK309 := n4_
         have HB := n5_
         clear n0_ n1_ n2_ n3_ n4_ n5_
         refine start_ (n := 8) (S := fun w' => w'.cell? ⟨gb307, 0, none⟩ = some (u308000) ∧ w'.cell? ⟨gb307, 1, none⟩ = some (.int .u64 0) ∧ w'.cell? ⟨gb307, 2, none⟩ = some (.int .u64 0) ∧ w'.cell? ⟨gb307, 3, none⟩ = some (.int .i64 x308003_1) ∧ w'.cell? ⟨gb307, 4, none⟩ = some (.int .i64 x308004_1) ∧ w'.cell? ⟨gb309, 0, none⟩ = some (.int .u64 ((rd_T34 l1 x12_1).f0)) ∧ w'.cell? ⟨gb309, 1, none⟩ = some (.int .u64 ((rd_T34 l1 x12_1).f1))) (ds := [7]) #[false, false, false, false, false, false, false, false] (by kernel_rfl) rfl rfl ⟨(blk_cell BK307.out 0).trans rfl, (blk_cell BK307.out 1).trans rfl, (blk_cell BK307.out 2).trans rfl, (blk_cell BK307.out 3).trans rfl, (blk_cell BK307.out 4).trans rfl, (blk_cell BK309.out 0).trans rfl, (blk_cell BK309.out 1).trans rfl⟩ (fun hHeld => ?_); refine with_tabW spec_proofOf.tab9 spec_proofOf.bits9 (fun HT_ HW_ => ?_)
         generalize w39.drew = w40 at HO_308000 BK305 BK306 BK307 BK309 HB hHeld ⊢
         refine pure_ (i := 0) (N := some 42) (v := ?_) (a' := ?_) #[true, false, false, false, false, false, false, false] rfl rfl (any_of HT_.out (by kernel_rfl)) (fun _ _ _ h => h) (Or.inl ⟨by rfl, ?_⟩) ?_ ?_
         rotate_left
         ·intro w'
          go_simp
          with_reducible rfl
         rotate_left
         ·simp only [Act.put, List.setIfInBounds_toArray, List.set_cons_zero, List.set_cons_succ, i64_w, i32_w]
          rfl
         refine take_ (i := 1) (N := some 43) (v := ?_) (a' := ?_) #[true, true, false, false, false, false, false, false] rfl rfl (take_ofW HT_.out HW_.out (by kernel_rfl)) (fun _ _ _ h => h) (Or.inl ⟨by rfl, ?_⟩) hHeld ?_ ?_
         rotate_left
         ·rintro w' ⟨s0, s1, s2, s3, s4, s5, s6⟩
          go_simp
          with_reducible rfl
         rotate_left
         ·simp only [Act.put, List.setIfInBounds_toArray, List.set_cons_zero, List.set_cons_succ, i64_w, i32_w]
          rfl
         refine take_ (i := 2) (N := some 44) (v := ?_) (a' := ?_) #[true, true, true, false, false, false, false, false] rfl rfl (take_ofW HT_.out HW_.out (by kernel_rfl)) (fun _ _ _ h => h) (Or.inl ⟨by rfl, ?_⟩) hHeld ?_ ?_
         rotate_left
         ·rintro w' ⟨s0, s1, s2, s3, s4, s5, s6⟩
          go_simp
          with_reducible rfl
         rotate_left
         ·simp only [Act.put, List.setIfInBounds_toArray, List.set_cons_zero, List.set_cons_succ, i64_w, i32_w]
          rfl
         refine one_ (i := 3) (N := some 45) #[true, true, true, true, false, false, false, false] rfl rfl (one_of HT_.out (by kernel_rfl)) (by decide) (fun K hK => ?_)
         refine goes_ Tryd.func128 (by kernel_rfl) rfl #[.agg #[.int .u64 ((rd_T34 l1 x12_1).f0), .int .u64 ((rd_T34 l1 x12_1).f1)]] (by rfl) rfl rfl (by (try simp only [List.map_toArray, List.map_cons, List.map_nil]); first | done | rfl | (simp only [List.length_drop, List.length_take]; rfl)) ?_
         with_reducible refine (spec_NodeOf.calls k1 ((rd_T34 l1 x12_1).f0) ((rd_T34 l1 x12_1).f1) t315 t316 _ A29.out).mono ?_
         rintro e w41 ⟨rfl, hb⟩
         refine ⟨_, rfl, ?_⟩
         have n0_ := Aside0.mk (Kd.R_below (by (with_reducible repeat (first | apply Kd.R_alloc | apply Kd.R_drewN | apply Kd.R_drew)); exact HO_308000.out) hb)
         have n1_ := Aside0.mk (blk_below (g := gb305) (o := .cells #[.int .u64 x306000_1, .int .u64 x306001_1] 34 (0, 0)) (by (with_reducible repeat (first | refine blk_drewN ?_ _ | refine blk_drew ?_ | refine blk_alloc ?_ _)); exact BK305.out) hb)
         have n2_ := Aside0.mk (blk_below (g := gb306) (o := .cells #[.slice none 0 0, .int .u64 0, .int .u64 0, .int .i64 0, .int .i64 0] 72 (0, 0)) (by (with_reducible repeat (first | refine blk_drewN ?_ _ | refine blk_drew ?_ | refine blk_alloc ?_ _)); exact BK306.out) hb)
         have n3_ := Aside0.mk (blk_below (g := gb307) (o := .cells #[u308000, .int .u64 0, .int .u64 0, .int .i64 x308003_1, .int .i64 x308004_1] 72 (0, 0)) (by (with_reducible repeat (first | refine blk_drewN ?_ _ | refine blk_drew ?_ | refine blk_alloc ?_ _)); exact BK307.out) hb)
         have n4_ := Aside0.mk (blk_below (g := gb309) (o := .cells #[.int .u64 ((rd_T34 l1 x12_1).f0), .int .u64 ((rd_T34 l1 x12_1).f1)] 34 (0, 0)) (by (with_reducible repeat (first | refine blk_drewN ?_ _ | refine blk_drew ?_ | refine blk_alloc ?_ _)); exact BK309.out) hb)
         have n5_ := Aside0.mk (below_step (by repeat (first | (with_reducible first | exact HB.out | apply below_alloc | apply pw_below_drewN | apply below_drew1 | refine below_set ?_ GE305.out | refine below_set ?_ GE306.out | refine below_set ?_ GE307.out | refine below_set ?_ GE309.out) | exact HB.out)) hb)
         clear HO_308000
         clear BK305
         clear BK306
         clear BK307
         clear BK309
         clear HB
         have HO_308000 := n0_
         have BK305 := n1_
         have BK306 := n2_
         have BK307 := n3_
         have BK309 := n4_
         have HB := n5_
         clear n0_ n1_ n2_ n3_ n4_ n5_
         (try clear hb)
         (try clear hb2)
         (try clear hk)
         (try clear hi)
         refine hK.out _ _ ⟨(blk_cell BK307.out 0).trans rfl, (blk_cell BK307.out 1).trans rfl, (blk_cell BK307.out 2).trans rfl, (blk_cell BK307.out 3).trans rfl, (blk_cell BK307.out 4).trans rfl, (blk_cell BK309.out 0).trans rfl, (blk_cell BK309.out 1).trans rfl⟩ (fun hHeld => ?_)
         clear hK K
         refine norm_ (a' := ?_) ?_ ?_
         rotate_left
         ·show Act.put _ (some 45) _ = _
          simp only [Act.put, List.setIfInBounds_toArray, List.set_cons_zero, List.set_cons_succ, i64_w, i32_w]
          rfl
         refine one_ (i := 4) (N := some 46) #[true, true, true, true, true, false, false, false] rfl rfl (one_of HT_.out (by kernel_rfl)) (by decide) (fun K hK => ?_)
         refine value_ (w1 := ?_) (v := ?_) (by rfl) rfl ?_ ?_
         rotate_left 2
         ·go_simp
          constructor
          ·rfl
          ·rfl
         refine hK.out _ _ ⟨(blk_cell (blk_alloc BK307.out _) 0).trans rfl, (blk_cell (blk_alloc BK307.out _) 1).trans rfl, (blk_cell (blk_alloc BK307.out _) 2).trans rfl, (blk_cell (blk_alloc BK307.out _) 3).trans rfl, (blk_cell (blk_alloc BK307.out _) 4).trans rfl, (blk_cell (blk_alloc BK309.out _) 0).trans rfl, (blk_cell (blk_alloc BK309.out _) 1).trans rfl⟩ (fun hHeld => ?_)
         clear hK K
         refine norm_ (a' := ?_) ?_ ?_
         rotate_left
         ·show Act.put _ (some 46) _ = _
          simp only [Act.put, List.setIfInBounds_toArray, List.set_cons_zero, List.set_cons_succ, i64_w, i32_w]
          rfl
         refine one_ (i := 5) (N := some 47) #[true, true, true, true, true, true, false, false] rfl rfl (one_of HT_.out (by kernel_rfl)) (by decide) (fun K hK => ?_)
         refine Kd.R_append_step k70 (w0 := w) w.heap.size (by rfl) (.tmp 43) (.tmp 46) 29 70 (.agg #[(.int .u64 0), (.int .u64 0)]) 16 rfl Tryd.underlying29 info70 rfl (by decide) (by omega) u308000 x308000_1 (⟨t315, t316⟩ : S70) [.int .u64 t315, .int .u64 t316] (fun _ => True) (fun _ => False) rfl rfl ?aP (fun _ hk => hk.elim) ?aF ?aO ?aB ?aS ?aL ?_
         (case aP => exact k70_mkM _ _ _ (⟨t315, t316⟩ : S70))
         (case aB => exact (by repeat (first | (with_reducible first | exact HB.out | apply below_alloc | apply pw_below_drewN | apply below_drew1 | refine below_set ?_ GE305.out | refine below_set ?_ GE306.out | refine below_set ?_ GE307.out | refine below_set ?_ GE309.out) | exact HB.out)))
         (case aF => exact (fun _ _ => trivial))
         (case aO => exact (by (with_reducible repeat (first | apply Kd.R_alloc | apply Kd.R_drewN | apply Kd.R_drew)); exact HO_308000.out))
         (case aS => exact (below_size (by repeat (first | (with_reducible first | exact HB.out | apply below_alloc | apply pw_below_drewN | apply below_drew1 | refine below_set ?_ GE305.out | refine below_set ?_ GE306.out | refine below_set ?_ GE307.out | refine below_set ?_ GE309.out) | exact HB.out))))
         (case aL => have := LMc30.out; omega)
         intro v318 w42 ho hb hg hat
         rw [← Ny317.out] at ho
         have n0_ := Aside0.mk (blk_grown (g := gb305) (o := .cells #[.int .u64 x306000_1, .int .u64 x306001_1] 34 (0, 0)) (by (with_reducible repeat (first | refine blk_drewN ?_ _ | refine blk_drew ?_ | refine blk_alloc ?_ _)); exact BK305.out) hg (Kd.R_ne HO_308000.out BK305.out (by decide)))
         have n1_ := Aside0.mk (blk_grown (g := gb306) (o := .cells #[.slice none 0 0, .int .u64 0, .int .u64 0, .int .i64 0, .int .i64 0] 72 (0, 0)) (by (with_reducible repeat (first | refine blk_drewN ?_ _ | refine blk_drew ?_ | refine blk_alloc ?_ _)); exact BK306.out) hg (Kd.R_ne HO_308000.out BK306.out (by decide)))
         have n2_ := Aside0.mk (blk_grown (g := gb307) (o := .cells #[u308000, .int .u64 0, .int .u64 0, .int .i64 x308003_1, .int .i64 x308004_1] 72 (0, 0)) (by (with_reducible repeat (first | refine blk_drewN ?_ _ | refine blk_drew ?_ | refine blk_alloc ?_ _)); exact BK307.out) hg (Kd.R_ne HO_308000.out BK307.out (by decide)))
         have n3_ := Aside0.mk (blk_grown (g := gb309) (o := .cells #[.int .u64 ((rd_T34 l1 x12_1).f0), .int .u64 ((rd_T34 l1 x12_1).f1)] 34 (0, 0)) (by (with_reducible repeat (first | refine blk_drewN ?_ _ | refine blk_drew ?_ | refine blk_alloc ?_ _)); exact BK309.out) hg (Kd.R_ne HO_308000.out BK309.out (by decide)))
         have n4_ := Aside0.mk (hb)
         have n5_ := Aside0.mk (ho)
         clear BK305
         clear BK306
         clear BK307
         clear BK309
         clear HB
         clear HO_308000
         have BK305 := n0_
         have BK306 := n1_
         have BK307 := n2_
         have BK309 := n3_
         have HB := n4_
         have HO319 := n5_
         clear n0_ n1_ n2_ n3_ n4_ n5_
         clear ho hb hg hat
         obtain ⟨Ao43, co43, eo43⟩ := Kd.R_slice HO319.out
         (first | subst eo43 | (injection eo43 with f1_ f2_ f3_; have f4_ := f1_.symm; have f5_ := f3_.symm; clear f1_ f2_ f3_; subst f4_; subst f5_))
         refine hK.out _ _ ⟨(blk_cell BK307.out 0).trans rfl, (blk_cell BK307.out 1).trans rfl, (blk_cell BK307.out 2).trans rfl, (blk_cell BK307.out 3).trans rfl, (blk_cell BK307.out 4).trans rfl, (blk_cell BK309.out 0).trans rfl, (blk_cell BK309.out 1).trans rfl⟩ (fun hHeld => ?_)
         clear hK K
         refine norm_ (a' := ?_) ?_ ?_
         rotate_left
         ·show Act.put _ (some 47) _ = _
          simp only [Act.put, List.setIfInBounds_toArray, List.set_cons_zero, List.set_cons_succ, i64_w, i32_w]
          rfl
         refine pure_ (i := 6) (N := some 48) (v := ?_) (a' := ?_) #[true, true, true, true, true, true, true, false] rfl rfl (any_of HT_.out (by kernel_rfl)) (fun _ _ _ h => h) (Or.inl ⟨by rfl, ?_⟩) ?_ ?_
         rotate_left
         ·intro w'
          go_simp
          with_reducible rfl
         rotate_left
         ·simp only [Act.put, List.setIfInBounds_toArray, List.set_cons_zero, List.set_cons_succ, i64_w, i32_w]
          rfl
         refine last_ (i := 7) (N := none) #[true, true, true, true, true, true, true, true] rfl rfl (one_of HT_.out (by kernel_rfl)) (by decide) (fun K hK => ?_)
         have hs44 : w42.cell? ⟨gb307, 0, none⟩ = some (u308000) := (blk_cell BK307.out 0).trans rfl
         have hfs44 := blk_frozen BK307.out 0
         have hns44_0 := NB305_307.out
         have hns44_1 := NB306_307.out
         have hns44_3 := NB309_307.out
         have hms44_0 := NB307_305.out
         have hms44_1 := NB307_306.out
         have hms44_3 := NB307_309.out
         refine skip_ (w1 := ?_) (by rfl) rfl ?_ ?_
         rotate_left
         ·go_simp
          rfl
         refine hK.out _ _ ?_
         clear hK K
         refine done_ (done_of HT_.out (by kernel_rfl)) ?_
         have hcz45_0 : w42.cell? ⟨gb309, 0, none⟩ = some (.int .u64 ((rd_T34 l1 x12_1).f0)) := (blk_cell BK309.out 0).trans rfl
         have hcz45_1 : w42.cell? ⟨gb309, 1, none⟩ = some (.int .u64 ((rd_T34 l1 x12_1).f1)) := (blk_cell BK309.out 1).trans rfl
         have hfz45_0 := blk_frozen BK309.out 0
         have hfz45_1 := blk_frozen BK309.out 1
         have hcz46_0 : w42.cell? ⟨gb305, 0, none⟩ = some (.int .u64 x306000_1) := (blk_cell BK305.out 0).trans rfl
         have hcz46_1 : w42.cell? ⟨gb305, 1, none⟩ = some (.int .u64 x306001_1) := (blk_cell BK305.out 1).trans rfl
         have hfz46_0 := blk_frozen BK305.out 0
         have hfz46_1 := blk_frozen BK305.out 1
         try go_wp2
         go_roundg k1
         case measure => have := HK1.out; omega
         case rel => exact ⟨(wrap64 (x12_1 + 1)), (x306000_1), ((rd_T34 l1 x12_1).f1), (y317), (x308003_1), (x308004_1), (.slice Ao43 y317.length co43), (by first | rfl | (simp; done) | (simp [*]; done)), H', ⟨by have := HK1.out; omega⟩, ⟨by (with_reducible repeat (first | apply Kd.R_alloc | apply Kd.R_drewN | apply Kd.R_drew)); exact Kd.R_mono (Kd.R_far (p := ⟨gb305, 1, none⟩) (Kd.R_far (p := ⟨gb307, 0, none⟩) (Kd.R_types (Kd.R_types HO319.out BK307.out (by decide)) BK305.out (by decide)) (fun _ hk => hk.1.2) (.slice Ao43 y317.length co43)) (fun _ hk => hk.2) (.int .u64 ((rd_T34 l1 x12_1).f1))) (fun _ hk => trivial)⟩, ⟨by (with_reducible repeat (first | refine blk_drewN ?_ _ | refine blk_drew ?_ | refine blk_alloc ?_ _)); refine blk_put (cs := #[.int .u64 x306000_1, .int .u64 x306001_1]) ?_ 1 _ rfl; (with_reducible repeat (first | refine blk_drewN ?_ _ | refine blk_drew ?_ | refine blk_alloc ?_ _)); refine blk_far ?_ NB305_307.out _; (with_reducible repeat (first | refine blk_drewN ?_ _ | refine blk_drew ?_ | refine blk_alloc ?_ _)); exact BK305.out⟩, ⟨by (with_reducible repeat (first | refine blk_drewN ?_ _ | refine blk_drew ?_ | refine blk_alloc ?_ _)); refine blk_far ?_ NB306_305.out _; (with_reducible repeat (first | refine blk_drewN ?_ _ | refine blk_drew ?_ | refine blk_alloc ?_ _)); refine blk_far ?_ NB306_307.out _; (with_reducible repeat (first | refine blk_drewN ?_ _ | refine blk_drew ?_ | refine blk_alloc ?_ _)); exact BK306.out⟩, ⟨by (with_reducible repeat (first | refine blk_drewN ?_ _ | refine blk_drew ?_ | refine blk_alloc ?_ _)); refine blk_far ?_ NB307_305.out _; (with_reducible repeat (first | refine blk_drewN ?_ _ | refine blk_drew ?_ | refine blk_alloc ?_ _)); refine blk_put (cs := #[u308000, .int .u64 0, .int .u64 0, .int .i64 x308003_1, .int .i64 x308004_1]) ?_ 0 _ rfl; (with_reducible repeat (first | refine blk_drewN ?_ _ | refine blk_drew ?_ | refine blk_alloc ?_ _)); exact BK307.out⟩, ⟨by repeat (first | (with_reducible first | exact HB.out | apply below_alloc | apply pw_below_drewN | apply below_drew1 | refine below_set ?_ GE305.out | refine below_set ?_ GE306.out | refine below_set ?_ GE307.out | refine below_set ?_ GE309.out) | exact HB.out)⟩⟩
        ·rw [if_neg c30] at H
         exact absurd H (by simp)
       ·rw [if_neg c28] at H
        have c28b0 : ((IntKind.u64.wrap (((rd_T34 l1 x12_1).f1) - ((rd_T34 l1 x12_1).f0))) == (IntKind.u64.wrap (x306001_1 - x306000_1))) = false := beq_eq_false_iff_ne.mpr c28
        have c28b1 : ((IntKind.u64.wrap (((rd_T34 l1 x12_1).f1) - ((rd_T34 l1 x12_1).f0))) != (IntKind.u64.wrap (x306001_1 - x306000_1))) = true := bne_iff_ne.mpr c28
        replace H := Option.bind_eq_some_iff.mp H
        obtain ⟨t320, A470, H⟩ := H
        replace H : (spec_proofOf.l1 k1 t320 (wrap64 ((t320.length : Int) - 1)) l1 (l1.length : Int) x12_1 x306000_1 x306001_1 x308000_1 0 0 (x308000_1.length : Int) (wrap64 ((x308000_1.length : Int) + (t320.length : Int))) ((rd_T34 l1 x12_1).f0) ((rd_T34 l1 x12_1).f1)) = some (r1, r2, r3, r4, r5) := H
        have A47 := Aside0.mk A470
        clear A470
        have H' := Aside0.mk H
        clear H
        have p308 : 0 ≤ (x12_1 : Int) := of_decide_eq_true (by first | (with_reducible assumption) | assumption)
        have q308 : x12_1 < (l1.length : Int) := of_decide_eq_true (by first | (with_reducible assumption) | assumption)
        obtain ⟨ad308, e308, hx308_0, hx308_1⟩ := at_T34 HR1.out x12_1 p308 q308
        cases e308
        (try replace hx308_0 := (HB.out.cell (World.block_lt_of_cell? w _ hx308_0)).trans hx308_0)
        (try replace hx308_1 := (HB.out.cell (World.block_lt_of_cell? w _ hx308_1)).trans hx308_1)
        replace p308 := eq_true p308
        replace q308 := eq_true q308
        go_wp2_with (first | ((with_reducible refine gate_dst (N := 7) rfl ?_); refine box_event ?hg (N := 7) ?hd (cs := #[.int .u64 0, .int .u64 0]) (t := 34) ?hr ?_; (case hd => rfl); (case hg => rfl); (case hr => first | (go_simp; done) | (go_simp; rfl)); intro gb309 hg w48 hbox hb; have n0_ := Aside0.mk (Kd.R_below (by (with_reducible repeat (first | apply Kd.R_alloc | apply Kd.R_drewN | apply Kd.R_drew)); exact HO_308000.out) hb); have n1_ := Aside0.mk (blk_below (g := gb305) (o := .cells #[.int .u64 x306000_1, .int .u64 x306001_1] 34 (0, 0)) (by (with_reducible repeat (first | refine blk_drewN ?_ _ | refine blk_drew ?_ | refine blk_alloc ?_ _)); exact BK305.out) hb); have n2_ := Aside0.mk (blk_below (g := gb306) (o := .cells #[.slice none 0 0, .int .u64 0, .int .u64 0, .int .i64 0, .int .i64 0] 72 (0, 0)) (by (with_reducible repeat (first | refine blk_drewN ?_ _ | refine blk_drew ?_ | refine blk_alloc ?_ _)); exact BK306.out) hb); have n3_ := Aside0.mk (blk_below (g := gb307) (o := .cells #[u308000, .int .u64 0, .int .u64 0, .int .i64 x308003_1, .int .i64 x308004_1] 72 (0, 0)) (by (with_reducible repeat (first | refine blk_drewN ?_ _ | refine blk_drew ?_ | refine blk_alloc ?_ _)); exact BK307.out) hb); have n4_ := Aside0.mk (below_step (by repeat (first | (with_reducible first | exact HB.out | apply below_alloc | apply pw_below_drewN | apply below_drew1 | refine below_set ?_ GE305.out | refine below_set ?_ GE306.out | refine below_set ?_ GE307.out) | exact HB.out)) hb); have n5_ := Aside0.mk (hbox); have n6_ := Aside0.mk ((by rw [hg]; exact (below_size (by repeat (first | (with_reducible first | exact HB.out | apply below_alloc | apply pw_below_drewN | apply below_drew1 | refine below_set ?_ GE305.out | refine below_set ?_ GE306.out | refine below_set ?_ GE307.out) | exact HB.out))) : w.heap.size ≤ gb309)); have n7_ := Aside0.mk ((by rw [hg]; exact (below_size (by repeat (first | (with_reducible first | exact HB.out | apply below_alloc | apply pw_below_drewN | apply below_drew1 | refine below_set ?_ GE305.out | refine below_set ?_ GE306.out | refine below_set ?_ GE307.out) | exact HB.out))) : w.heap.size ≤ gb309)); have n8_ := Aside0.mk ((by rw [hg]; exact Nat.ne_of_lt (blk_lt (g := gb305) (o := .cells #[.int .u64 x306000_1, .int .u64 x306001_1] 34 (0, 0)) (by (with_reducible repeat (first | refine blk_drewN ?_ _ | refine blk_drew ?_ | refine blk_alloc ?_ _)); exact BK305.out)) : gb305 ≠ gb309)); have n9_ := Aside0.mk ((by rw [hg]; exact Nat.ne_of_gt (blk_lt (g := gb305) (o := .cells #[.int .u64 x306000_1, .int .u64 x306001_1] 34 (0, 0)) (by (with_reducible repeat (first | refine blk_drewN ?_ _ | refine blk_drew ?_ | refine blk_alloc ?_ _)); exact BK305.out)) : gb309 ≠ gb305)); have n10_ := Aside0.mk ((by rw [hg]; exact Nat.ne_of_lt (blk_lt (g := gb306) (o := .cells #[.slice none 0 0, .int .u64 0, .int .u64 0, .int .i64 0, .int .i64 0] 72 (0, 0)) (by (with_reducible repeat (first | refine blk_drewN ?_ _ | refine blk_drew ?_ | refine blk_alloc ?_ _)); exact BK306.out)) : gb306 ≠ gb309)); have n11_ := Aside0.mk ((by rw [hg]; exact Nat.ne_of_gt (blk_lt (g := gb306) (o := .cells #[.slice none 0 0, .int .u64 0, .int .u64 0, .int .i64 0, .int .i64 0] 72 (0, 0)) (by (with_reducible repeat (first | refine blk_drewN ?_ _ | refine blk_drew ?_ | refine blk_alloc ?_ _)); exact BK306.out)) : gb309 ≠ gb306)); have n12_ := Aside0.mk ((by rw [hg]; exact Nat.ne_of_lt (blk_lt (g := gb307) (o := .cells #[u308000, .int .u64 0, .int .u64 0, .int .i64 x308003_1, .int .i64 x308004_1] 72 (0, 0)) (by (with_reducible repeat (first | refine blk_drewN ?_ _ | refine blk_drew ?_ | refine blk_alloc ?_ _)); exact BK307.out)) : gb307 ≠ gb309)); have n13_ := Aside0.mk ((by rw [hg]; exact Nat.ne_of_gt (blk_lt (g := gb307) (o := .cells #[u308000, .int .u64 0, .int .u64 0, .int .i64 x308003_1, .int .i64 x308004_1] 72 (0, 0)) (by (with_reducible repeat (first | refine blk_drewN ?_ _ | refine blk_drew ?_ | refine blk_alloc ?_ _)); exact BK307.out)) : gb309 ≠ gb307)); clear HO_308000; clear BK305; clear BK306; clear BK307; clear HB; have HO_308000 := n0_; have BK305 := n1_; have BK306 := n2_; have BK307 := n3_; have HB := n4_; have BK309 := n5_; have GW309 := n6_; have GE309 := n7_; have NB305_309 := n8_; have NB309_305 := n9_; have NB306_309 := n10_; have NB309_306 := n11_; have NB307_309 := n12_; have NB309_307 := n13_; clear n0_ n1_ n2_ n3_ n4_ n5_ n6_ n7_ n8_ n9_ n10_ n11_ n12_ n13_; clear hb hbox hg; have hnb49 := NB309_305.out; have hnc49 := NB305_309.out; have hnb50 := NB309_306.out; have hnc50 := NB306_309.out; have hnb51 := NB309_307.out; have hnc51 := NB307_309.out; have hcz52_0 : w48.cell? ⟨gb309, 0, none⟩ = some (.int .u64 0) := (blk_cell BK309.out 0).trans rfl; have hcz52_1 : w48.cell? ⟨gb309, 1, none⟩ = some (.int .u64 0) := (blk_cell BK309.out 1).trans rfl; have hfz52_0 := blk_frozen BK309.out 0; have hfz52_1 := blk_frozen BK309.out 1; have hnb53 := NB305_306.out; have hnc53 := NB306_305.out; have hnb54 := NB305_307.out; have hnc54 := NB307_305.out; have hcz55_0 : w48.cell? ⟨gb305, 0, none⟩ = some (.int .u64 x306000_1) := (blk_cell BK305.out 0).trans rfl; have hcz55_1 : w48.cell? ⟨gb305, 1, none⟩ = some (.int .u64 x306001_1) := (blk_cell BK305.out 1).trans rfl; have hfz55_0 := blk_frozen BK305.out 0; have hfz55_1 := blk_frozen BK305.out 1) | ((with_reducible refine gate_callee (f := 20) rfl ?_); refine goesL_ (some 50) rfl rfl Tryd.func20 (by kernel_rfl) rfl #[.agg #[.int .u64 ((rd_T34 l1 x12_1).f0), .int .u64 ((rd_T34 l1 x12_1).f1)]] rfl (by (try simp only [List.map_toArray, List.map_cons, List.map_nil]); first | done | rfl | (simp only [List.length_drop, List.length_take]; rfl)) ?_; (with_reducible refine (spec_Nodes.calls k1 ((rd_T34 l1 x12_1).f0) ((rd_T34 l1 x12_1).f1) t320 _ A47.out).mono ?_); rintro e w56 ⟨v321, rfl, ho0, hb⟩; refine ⟨_, rfl, ?_⟩; have n0_ := Aside0.mk (Kd.R_elder' (by (with_reducible repeat (first | apply Kd.R_alloc | apply Kd.R_drewN | apply Kd.R_drew)); exact (Kd.R_mono (Kd.R_far (p := ⟨gb309, 1, none⟩) (Kd.R_far (p := ⟨gb309, 0, none⟩) (Kd.R_types HO_308000.out BK309.out (by decide)) (fun _ hk => hk.2) (.int .u64 ((rd_T34 l1 x12_1).f0))) (fun _ hk => hk.2) (.int .u64 ((rd_T34 l1 x12_1).f1))) (fun _ h_ => h_.1))) (Kd.R_base ho0) hb); have n1_ := Aside0.mk (Kd.R_lower (Kd.R_new' ho0 (Kd.R_lt (by (with_reducible repeat (first | apply Kd.R_alloc | apply Kd.R_drewN | apply Kd.R_drew)); exact (Kd.R_mono (Kd.R_far (p := ⟨gb309, 1, none⟩) (Kd.R_far (p := ⟨gb309, 0, none⟩) (Kd.R_types HO_308000.out BK309.out (by decide)) (fun _ hk => hk.2) (.int .u64 ((rd_T34 l1 x12_1).f0))) (fun _ hk => hk.2) (.int .u64 ((rd_T34 l1 x12_1).f1))) (fun _ h_ => h_.1))))) (below_size (by repeat (first | (with_reducible first | exact HB.out | apply below_alloc | apply pw_below_drewN | apply below_drew1 | refine below_set ?_ GE305.out | refine below_set ?_ GE306.out | refine below_set ?_ GE307.out | refine below_set ?_ GE309.out) | exact HB.out)))); have n2_ := Aside0.mk (blk_below (g := gb305) (o := .cells #[.int .u64 x306000_1, .int .u64 x306001_1] 34 (0, 0)) (by (with_reducible repeat (first | refine blk_drewN ?_ _ | refine blk_drew ?_ | refine blk_alloc ?_ _)); refine blk_far ?_ NB305_309.out _; (with_reducible repeat (first | refine blk_drewN ?_ _ | refine blk_drew ?_ | refine blk_alloc ?_ _)); refine blk_far ?_ NB305_309.out _; (with_reducible repeat (first | refine blk_drewN ?_ _ | refine blk_drew ?_ | refine blk_alloc ?_ _)); exact BK305.out) hb); have n3_ := Aside0.mk (blk_below (g := gb306) (o := .cells #[.slice none 0 0, .int .u64 0, .int .u64 0, .int .i64 0, .int .i64 0] 72 (0, 0)) (by (with_reducible repeat (first | refine blk_drewN ?_ _ | refine blk_drew ?_ | refine blk_alloc ?_ _)); refine blk_far ?_ NB306_309.out _; (with_reducible repeat (first | refine blk_drewN ?_ _ | refine blk_drew ?_ | refine blk_alloc ?_ _)); refine blk_far ?_ NB306_309.out _; (with_reducible repeat (first | refine blk_drewN ?_ _ | refine blk_drew ?_ | refine blk_alloc ?_ _)); exact BK306.out) hb); have n4_ := Aside0.mk (blk_below (g := gb307) (o := .cells #[u308000, .int .u64 0, .int .u64 0, .int .i64 x308003_1, .int .i64 x308004_1] 72 (0, 0)) (by (with_reducible repeat (first | refine blk_drewN ?_ _ | refine blk_drew ?_ | refine blk_alloc ?_ _)); refine blk_far ?_ NB307_309.out _; (with_reducible repeat (first | refine blk_drewN ?_ _ | refine blk_drew ?_ | refine blk_alloc ?_ _)); refine blk_far ?_ NB307_309.out _; (with_reducible repeat (first | refine blk_drewN ?_ _ | refine blk_drew ?_ | refine blk_alloc ?_ _)); exact BK307.out) hb); have n5_ := Aside0.mk (blk_below (g := gb309) (o := .cells #[.int .u64 ((rd_T34 l1 x12_1).f0), .int .u64 ((rd_T34 l1 x12_1).f1)] 34 (0, 0)) (by (with_reducible repeat (first | refine blk_drewN ?_ _ | refine blk_drew ?_ | refine blk_alloc ?_ _)); refine blk_put (cs := #[.int .u64 ((rd_T34 l1 x12_1).f0), .int .u64 0]) ?_ 1 _ rfl; (with_reducible repeat (first | refine blk_drewN ?_ _ | refine blk_drew ?_ | refine blk_alloc ?_ _)); refine blk_put (cs := #[.int .u64 0, .int .u64 0]) ?_ 0 _ rfl; (with_reducible repeat (first | refine blk_drewN ?_ _ | refine blk_drew ?_ | refine blk_alloc ?_ _)); exact BK309.out) hb); have n6_ := Aside0.mk (below_step (by repeat (first | (with_reducible first | exact HB.out | apply below_alloc | apply pw_below_drewN | apply below_drew1 | refine below_set ?_ GE305.out | refine below_set ?_ GE306.out | refine below_set ?_ GE307.out | refine below_set ?_ GE309.out) | exact HB.out)) hb); clear HO_308000; clear BK305; clear BK306; clear BK307; clear BK309; clear HB; have HO_308000 := n0_; have HO322 := n1_; have BK305 := n2_; have BK306 := n3_; have BK307 := n4_; have BK309 := n5_; have HB := n6_; clear n0_ n1_ n2_ n3_ n4_ n5_ n6_; (try clear hb); (try clear hb2); (try clear hk); (try clear hi); (try clear ho0); have hnb57 := NB307_306.out; have hnc57 := NB306_307.out; have hcz58_0 : w56.cell? ⟨gb307, 0, none⟩ = some (u308000) := (blk_cell BK307.out 0).trans rfl; have hcz58_1 : w56.cell? ⟨gb307, 1, none⟩ = some (.int .u64 0) := (blk_cell BK307.out 1).trans rfl; have hcz58_2 : w56.cell? ⟨gb307, 2, none⟩ = some (.int .u64 0) := (blk_cell BK307.out 2).trans rfl; have hcz58_3 : w56.cell? ⟨gb307, 3, none⟩ = some (.int .i64 x308003_1) := (blk_cell BK307.out 3).trans rfl; have hcz58_4 : w56.cell? ⟨gb307, 4, none⟩ = some (.int .i64 x308004_1) := (blk_cell BK307.out 4).trans rfl; have hfz58_0 := blk_frozen BK307.out 0; have hfz58_1 := blk_frozen BK307.out 1; have hfz58_2 := blk_frozen BK307.out 2; have hfz58_3 := blk_frozen BK307.out 3; have hfz58_4 := blk_frozen BK307.out 4; obtain ⟨Ao59, co59, eo59⟩ := Kd.R_slice HO_308000.out; subst eo59; obtain ⟨Ao60, co60, eo60⟩ := Kd.R_slice HO322.out; subst eo60))
        try simp only [Act.put, List.setIfInBounds_toArray, List.set_cons_zero, List.set_cons_succ]
        go_loopg [9] k1 (fun kq v9 w' => ∃ (x9_2 : Int) (x308000_2 : List (S70)) (u308000 : Value), v9 = .int .i64 x9_2 ∧ Aside0 (spec_proofOf.l1 kq t320 x9_2 l1 (l1.length : Int) x12_1 x306000_1 x306001_1 x308000_2 0 0 (x308000_1.length : Int) (wrap64 ((x308000_1.length : Int) + (t320.length : Int))) ((rd_T34 l1 x12_1).f0) ((rd_T34 l1 x12_1).f1) = some (r1, r2, r3, r4, r5)) ∧ Aside0 (kq ≤ k1) ∧ Aside0 (Kd.R k70 70 w' w.heap.size (fun k_ => some k_ ≠ (u308000 : Value).ownBlock) (.slice Ao60 t320.length co60) t320) ∧ Aside0 (Kd.R k70 70 w' w.heap.size (fun k_ => some k_ ≠ ((.slice Ao60 t320.length co60) : Value).ownBlock) u308000 x308000_2) ∧ Aside0 (w'.heap[gb305]? = some (.cells #[.int .u64 x306000_1, .int .u64 x306001_1] 34 (0, 0))) ∧ Aside0 (w'.heap[gb306]? = some (.cells #[(.slice none 0 0), .int .u64 0, .int .u64 0, .int .i64 0, .int .i64 0] 72 (0, 0))) ∧ Aside0 (w'.heap[gb307]? = some (.cells #[u308000, .int .u64 0, .int .u64 0, .int .i64 (x308000_1.length : Int), .int .i64 (wrap64 ((x308000_1.length : Int) + (t320.length : Int)))] 72 (0, 0))) ∧ Aside0 (w'.heap[gb309]? = some (.cells #[.int .u64 ((rd_T34 l1 x12_1).f0), .int .u64 ((rd_T34 l1 x12_1).f1)] 34 (0, 0))) ∧ Aside0 (Below w.heap.size w w'))
        case atStart => exact ⟨(wrap64 ((t320.length : Int) - 1)), (x308000_1), (.slice Ao59 x308000_1.length co59), (by first | rfl | (simp; done) | (simp [*]; done)), H', ⟨Nat.le_refl _⟩, ⟨by (with_reducible repeat (first | apply Kd.R_alloc | apply Kd.R_drewN | apply Kd.R_drew)); exact Kd.R_mono (Kd.R_far (p := ⟨gb307, 4, none⟩) (Kd.R_far (p := ⟨gb307, 3, none⟩) (Kd.R_types HO322.out BK307.out (by decide)) (fun _ hk => hk.2) (.int .i64 (x308000_1.length : Int))) (fun _ hk => hk.2) (.int .i64 (wrap64 ((x308000_1.length : Int) + (t320.length : Int))))) (fun _ hk => hk.1.2)⟩, ⟨by (with_reducible repeat (first | apply Kd.R_alloc | apply Kd.R_drewN | apply Kd.R_drew)); exact Kd.R_mono (Kd.R_far (p := ⟨gb307, 4, none⟩) (Kd.R_far (p := ⟨gb307, 3, none⟩) (Kd.R_types HO_308000.out BK307.out (by decide)) (fun _ hk => hk.2) (.int .i64 (x308000_1.length : Int))) (fun _ hk => hk.2) (.int .i64 (wrap64 ((x308000_1.length : Int) + (t320.length : Int))))) (fun _ hk => hk.1.2)⟩, ⟨by (with_reducible repeat (first | refine blk_drewN ?_ _ | refine blk_drew ?_ | refine blk_alloc ?_ _)); refine blk_far ?_ NB305_307.out _; (with_reducible repeat (first | refine blk_drewN ?_ _ | refine blk_drew ?_ | refine blk_alloc ?_ _)); refine blk_far ?_ NB305_307.out _; (with_reducible repeat (first | refine blk_drewN ?_ _ | refine blk_drew ?_ | refine blk_alloc ?_ _)); exact BK305.out⟩, ⟨by (with_reducible repeat (first | refine blk_drewN ?_ _ | refine blk_drew ?_ | refine blk_alloc ?_ _)); refine blk_far ?_ NB306_307.out _; (with_reducible repeat (first | refine blk_drewN ?_ _ | refine blk_drew ?_ | refine blk_alloc ?_ _)); refine blk_far ?_ NB306_307.out _; (with_reducible repeat (first | refine blk_drewN ?_ _ | refine blk_drew ?_ | refine blk_alloc ?_ _)); exact BK306.out⟩, ⟨by (with_reducible repeat (first | refine blk_drewN ?_ _ | refine blk_drew ?_ | refine blk_alloc ?_ _)); refine blk_put (cs := #[.slice Ao59 x308000_1.length co59, .int .u64 0, .int .u64 0, .int .i64 (x308000_1.length : Int), .int .i64 x308004_1]) ?_ 4 _ rfl; (with_reducible repeat (first | refine blk_drewN ?_ _ | refine blk_drew ?_ | refine blk_alloc ?_ _)); refine blk_put (cs := #[.slice Ao59 x308000_1.length co59, .int .u64 0, .int .u64 0, .int .i64 x308003_1, .int .i64 x308004_1]) ?_ 3 _ rfl; (with_reducible repeat (first | refine blk_drewN ?_ _ | refine blk_drew ?_ | refine blk_alloc ?_ _)); exact BK307.out⟩, ⟨by (with_reducible repeat (first | refine blk_drewN ?_ _ | refine blk_drew ?_ | refine blk_alloc ?_ _)); refine blk_far ?_ NB309_307.out _; (with_reducible repeat (first | refine blk_drewN ?_ _ | refine blk_drew ?_ | refine blk_alloc ?_ _)); refine blk_far ?_ NB309_307.out _; (with_reducible repeat (first | refine blk_drewN ?_ _ | refine blk_drew ?_ | refine blk_alloc ?_ _)); exact BK309.out⟩, ⟨by repeat (first | (with_reducible first | exact HB.out | apply below_alloc | apply pw_below_drewN | apply below_drew1 | refine below_set ?_ GE305.out | refine below_set ?_ GE306.out | refine below_set ?_ GE307.out | refine below_set ?_ GE309.out) | exact HB.out)⟩⟩
        case round =>
         clear H'
         try clear c1
         try clear c2
         try clear p2
         try clear c3
         try clear p3
         try clear q3
         try clear hx3
         try clear c4
         try clear c5
         try clear c6
         try clear c6b0
         try clear p6
         try clear c7
         try clear c7b0
         try clear c8
         try clear c8b0
         try clear c9
         try clear c9b0
         try clear c9b1
         try clear c11
         try clear c12
         try clear c13
         try clear c14
         try clear c15
         try clear c17
         try clear c18
         try clear c20
         try clear c28
         try clear c28b0
         try clear c28b1
         try clear c30
         try clear p30
         try clear q30
         try clear hx30
         try clear c32
         try clear c33
         try clear c34
         try clear c36
         try clear c37
         try clear c49
         try clear c50
         try clear c51
         try clear c53
         try clear c54
         try clear c57
         try clear hcz16_0
         try clear hcz16_1
         try clear hcz19_0
         try clear hcz19_1
         try clear hcz26_0
         try clear hcz26_1
         try clear hcz27_0
         try clear hcz27_1
         try clear hcz35_0
         try clear hcz35_1
         try clear hcz38_0
         try clear hcz38_1
         try clear hcz45_0
         try clear hcz45_1
         try clear hcz46_0
         try clear hcz46_1
         try clear hcz52_0
         try clear hcz52_1
         try clear hcz55_0
         try clear hcz55_1
         try clear hcz58_0
         try clear hcz58_1
         try clear hcz58_2
         try clear hcz58_3
         try clear hcz58_4
         try clear hfz16_0
         try clear hfz16_1
         try clear hfz19_0
         try clear hfz19_1
         try clear hfz26_0
         try clear hfz26_1
         try clear hfz27_0
         try clear hfz27_1
         try clear hfz35_0
         try clear hfz35_1
         try clear hfz38_0
         try clear hfz38_1
         try clear hfz45_0
         try clear hfz45_1
         try clear hfz46_0
         try clear hfz46_1
         try clear hfz52_0
         try clear hfz52_1
         try clear hfz55_0
         try clear hfz55_1
         try clear hfz58_0
         try clear hfz58_1
         try clear hfz58_2
         try clear hfz58_3
         try clear hfz58_4
         try clear hx308_0
         try clear hx308_1
         try clear p2
         try clear p308
         try clear q308
         obtain ⟨x9_2, x308000_2, u308000, rfl, HA, HK2, HO_8, HO_308000, BK305, BK306, BK307, BK309, HB⟩ := hrel
         cases gk with
         | zero => exact absurd HA.out (by simp [spec_proofOf.l1])
         | succ k2 =>
          have H := HA.out
          clear HA
          simp only [spec_proofOf.l1] at H
          by_cases c61 : x9_2 ≥ 0
          ·rw [if_pos c61] at H
           have c61b0 : decide (0 ≤ x9_2) = true := decide_eq_true c61
           clear c61
           by_cases c62 : 0 ≤ x9_2
           ·rw [if_pos c62] at H
            have c62b0 : decide (0 ≤ x9_2) = true := decide_eq_true c62
            clear c62
            by_cases c63 : x9_2 < (t320.length : Int)
            ·rw [if_pos c63] at H
             have c63b0 : decide (x9_2 < (t320.length : Int)) = true := decide_eq_true c63
             clear c63
             by_cases c64 : x308000_2.length < 8796093022208
             ·rw [if_pos c64] at H
              have LMc64 := Aside0.mk c64
              clear c64
              obtain ⟨y324, hy324⟩ : ∃ y_ : List (S70), y_ = (x308000_2 ++ [(⟨(rd_T70 t320 x9_2).f0, (rd_T70 t320 x9_2).f1⟩ : S70)]) := ⟨_, rfl⟩
              replace H : (spec_proofOf.l1 k2 t320 (wrap64 (x9_2 - 1)) l1 (l1.length : Int) x12_1 x306000_1 x306001_1 y324 0 0 (x308000_1.length : Int) (wrap64 ((x308000_1.length : Int) + (t320.length : Int))) ((rd_T34 l1 x12_1).f0) ((rd_T34 l1 x12_1).f1)) = some (r1, r2, r3, r4, r5) := by first | (rw [hy324]; with_reducible exact H) | (have H2_ := (Option.bind_some _ _).symm.trans H; rw [hy324]; with_reducible exact H2_) | (have H2_ := (Option.bind_some _ _).symm.trans H; with_reducible exact H2_) | with_reducible exact H | (rw [hy324]; exact H) | exact H
              have Ny324 := Aside0.mk hy324
              clear hy324
              have H' := Aside0.mk H
              clear H
              try go_wp2
              have n0_ := Aside0.mk (Kd.R_drew HO_8.out)
              have n1_ := Aside0.mk (Kd.R_drew HO_308000.out)
              have n2_ := Aside0.mk (blk_drew BK305.out)
              have n3_ := Aside0.mk (blk_drew BK306.out)
              have n4_ := Aside0.mk (blk_drew BK307.out)
              have n5_ := Aside0.mk (blk_drew BK309.out)
              have n6_ := Aside0.mk (below_drew1 HB.out)
              clear HO_8
              clear HO_308000
              clear BK305
              clear BK306
              clear BK307
              clear BK309
              clear HB
              have HO_8 := n0_
              have HO_308000 := n1_
              have BK305 := n2_
              have BK306 := n3_
              have BK307 := n4_
              have BK309 := n5_
              have HB := n6_
              clear n0_ n1_ n2_ n3_ n4_ n5_ n6_
              have p323 : 0 ≤ (x9_2 : Int) := of_decide_eq_true (by first | (with_reducible assumption) | assumption)
              have q323 : x9_2 < (t320.length : Int) := of_decide_eq_true (by first | (with_reducible assumption) | assumption)
              obtain ⟨ad323, e323, hx323_0, hx323_1⟩ := at_T70 (Kd.R_reads' HO_8.out).2.2 x9_2 p323 q323
              cases e323
              replace p323 := eq_true p323
              replace q323 := eq_true q323
              refine start_ (n := 10) (S := fun w' => w'.cell? ⟨gb307, 0, none⟩ = some (u308000) ∧ w'.cell? ⟨gb307, 1, none⟩ = some (.int .u64 0) ∧ w'.cell? ⟨gb307, 2, none⟩ = some (.int .u64 0) ∧ w'.cell? ⟨gb307, 3, none⟩ = some (.int .i64 (x308000_1.length : Int)) ∧ w'.cell? ⟨gb307, 4, none⟩ = some (.int .i64 (wrap64 ((x308000_1.length : Int) + (t320.length : Int)))) ∧ w'.cell? (ad323.add ((x9_2).toNat * 2)) = some (.int .u64 ((rd_T70 t320 x9_2).f0)) ∧ w'.cell? ⟨(ad323.add ((x9_2).toNat * 2)).block, (ad323.add ((x9_2).toNat * 2)).off + 1, none⟩ = some (.int .u64 ((rd_T70 t320 x9_2).f1))) (ds := [7, 9]) #[false, false, false, false, false, false, false, false, false, false] (by kernel_rfl) rfl rfl ⟨(blk_cell BK307.out 0).trans rfl, (blk_cell BK307.out 1).trans rfl, (blk_cell BK307.out 2).trans rfl, (blk_cell BK307.out 3).trans rfl, (blk_cell BK307.out 4).trans rfl, hx323_0, hx323_1⟩ (fun hHeld => ?_); refine with_tabW spec_proofOf.tab15 spec_proofOf.bits15 (fun HT_ HW_ => ?_)
              generalize wr.drew = w65 at HO_8 HO_308000 BK305 BK306 BK307 BK309 HB hx323_0 hx323_1 hHeld ⊢
              refine pure_ (i := 0) (N := some 69) (v := ?_) (a' := ?_) #[true, false, false, false, false, false, false, false, false, false] rfl rfl (any_of HT_.out (by kernel_rfl)) (fun _ _ _ h => h) (Or.inl ⟨by rfl, ?_⟩) ?_ ?_
              rotate_left
              ·intro w'
               go_simp
               with_reducible rfl
              rotate_left
              ·simp only [Act.put, List.setIfInBounds_toArray, List.set_cons_zero, List.set_cons_succ, i64_w, i32_w]
               rfl
              refine pure_ (i := 2) (N := some 71) (v := ?_) (a' := ?_) #[true, false, true, false, false, false, false, false, false, false] rfl rfl (any_of HT_.out (by kernel_rfl)) (fun _ _ _ h => h) (Or.inl ⟨by rfl, ?_⟩) ?_ ?_
              rotate_left
              ·intro w'
               go_simp
               with_reducible rfl
              rotate_left
              ·simp only [Act.put, List.setIfInBounds_toArray, List.set_cons_zero, List.set_cons_succ, i64_w, i32_w]
               rfl
              refine pure_ (i := 3) (N := some 72) (v := ?_) (a' := ?_) #[true, false, true, true, false, false, false, false, false, false] rfl rfl (any_of HT_.out (by kernel_rfl)) (fun _ _ _ h => h) (Or.inl ⟨by rfl, ?_⟩) ?_ ?_
              rotate_left
              ·intro w'
               go_simp
               with_reducible rfl
              rotate_left
              ·simp only [Act.put, List.setIfInBounds_toArray, List.set_cons_zero, List.set_cons_succ, i64_w, i32_w]
               rfl
              refine pure_ (i := 4) (N := some 73) (v := ?_) (a' := ?_) #[true, false, true, true, true, false, false, false, false, false] rfl rfl (any_of HT_.out (by kernel_rfl)) (fun _ _ _ h => h) (Or.inl ⟨by rfl, ?_⟩) ?_ ?_
              rotate_left
              ·intro w'
               go_simp
               with_reducible rfl
              rotate_left
              ·simp only [Act.put, List.setIfInBounds_toArray, List.set_cons_zero, List.set_cons_succ, i64_w, i32_w]
               rfl
              refine take_ (i := 1) (N := some 70) (v := ?_) (a' := ?_) #[true, true, true, true, true, false, false, false, false, false] rfl rfl (take_ofW HT_.out HW_.out (by kernel_rfl)) (fun _ _ _ h => h) (Or.inl ⟨by rfl, ?_⟩) hHeld ?_ ?_
              rotate_left
              ·rintro w' ⟨s0, s1, s2, s3, s4, s5, s6⟩
               go_simp
               with_reducible rfl
              rotate_left
              ·simp only [Act.put, List.setIfInBounds_toArray, List.set_cons_zero, List.set_cons_succ, i64_w, i32_w]
               rfl
              refine take_ (i := 5) (N := some 74) (v := ?_) (a' := ?_) #[true, true, true, true, true, true, false, false, false, false] rfl rfl (take_ofW HT_.out HW_.out (by kernel_rfl)) (fun _ _ _ h => h) (Or.inl ⟨by rfl, ?_⟩) hHeld ?_ ?_
              rotate_left
              ·rintro w' ⟨s0, s1, s2, s3, s4, s5, s6⟩
               go_simp
               with_reducible rfl
              rotate_left
              ·simp only [Act.put, List.setIfInBounds_toArray, List.set_cons_zero, List.set_cons_succ, i64_w, i32_w]
               rfl
              refine one_ (i := 6) (N := some 75) #[true, true, true, true, true, true, true, false, false, false] rfl rfl (one_of HT_.out (by kernel_rfl)) (by decide) (fun K hK => ?_)
              refine value_ (w1 := ?_) (v := ?_) (by rfl) rfl ?_ ?_
              rotate_left 2
              ·go_simp
               constructor
               ·rfl
               ·rfl
              refine hK.out _ _ ⟨(blk_cell (blk_alloc BK307.out _) 0).trans rfl, (blk_cell (blk_alloc BK307.out _) 1).trans rfl, (blk_cell (blk_alloc BK307.out _) 2).trans rfl, (blk_cell (blk_alloc BK307.out _) 3).trans rfl, (blk_cell (blk_alloc BK307.out _) 4).trans rfl, (World.cell?_alloc_lt _ _ _ (World.block_lt_of_cell? _ _ (hHeld.2.2.2.2.2.1))).trans (hHeld.2.2.2.2.2.1), (World.cell?_alloc_lt _ _ _ (World.block_lt_of_cell? _ _ (hHeld.2.2.2.2.2.2))).trans (hHeld.2.2.2.2.2.2)⟩ (fun hHeld => ?_)
              clear hK K
              refine norm_ (a' := ?_) ?_ ?_
              rotate_left
              ·show Act.put _ (some 75) _ = _
               simp only [Act.put, List.setIfInBounds_toArray, List.set_cons_zero, List.set_cons_succ, i64_w, i32_w]
               rfl
              refine last_ (i := 7) (N := some 76) #[true, true, true, true, true, true, true, true, false, false] rfl rfl (one_of HT_.out (by kernel_rfl)) (by decide) (fun K hK => ?_)
              refine Kd.R_append_step k70 (w0 := w) w.heap.size (by rfl) (.tmp 70) (.tmp 75) 29 70 (.agg #[(.int .u64 0), (.int .u64 0)]) 16 rfl Tryd.underlying29 info70 rfl (by decide) (by omega) u308000 x308000_2 (⟨(rd_T70 t320 x9_2).f0, (rd_T70 t320 x9_2).f1⟩ : S70) [.int .u64 ((rd_T70 t320 x9_2).f0), .int .u64 ((rd_T70 t320 x9_2).f1)] (fun k_ => some k_ ≠ (.slice (some ad323) t320.length co60 : Value).ownBlock) (fun _ => False) rfl rfl ?aP (fun _ hk => hk.elim) ?aF ?aO ?aB ?aS ?aL ?_
              (case aP => exact k70_mkM _ _ _ (⟨(rd_T70 t320 x9_2).f0, (rd_T70 t320 x9_2).f1⟩ : S70))
              (case aB => exact (by repeat (first | (with_reducible first | exact HB.out | apply below_alloc | apply pw_below_drewN | apply below_drew1 | refine below_set ?_ GE305.out | refine below_set ?_ GE306.out | refine below_set ?_ GE307.out | refine below_set ?_ GE309.out) | exact HB.out)))
              (case aF => exact (fun k_ hk => Kd.fresh' (Kd.R_lt (by (with_reducible repeat (first | apply Kd.R_alloc | apply Kd.R_drewN | apply Kd.R_drew)); exact HO_8.out)) k_ hk))
              (case aO => exact (by (with_reducible repeat (first | apply Kd.R_alloc | apply Kd.R_drewN | apply Kd.R_drew)); exact HO_308000.out))
              (case aS => exact (below_size (by repeat (first | (with_reducible first | exact HB.out | apply below_alloc | apply pw_below_drewN | apply below_drew1 | refine below_set ?_ GE305.out | refine below_set ?_ GE306.out | refine below_set ?_ GE307.out | refine below_set ?_ GE309.out) | exact HB.out))))
              (case aL => have := LMc64.out; omega)
              intro v325 w66 ho hb hg hat
              rw [← Ny324.out] at ho
              have n0_ := Aside0.mk (Kd.R_after (ok := (fun _ => True)) (by (with_reducible repeat (first | apply Kd.R_alloc | apply Kd.R_drewN | apply Kd.R_drew)); exact Kd.R_mono HO_8.out (fun _ hk => ⟨trivial, hk⟩)) hg hat)
              have n1_ := Aside0.mk (blk_grown (g := gb305) (o := .cells #[.int .u64 x306000_1, .int .u64 x306001_1] 34 (0, 0)) (by (with_reducible repeat (first | refine blk_drewN ?_ _ | refine blk_drew ?_ | refine blk_alloc ?_ _)); exact BK305.out) hg (Kd.R_ne HO_308000.out BK305.out (by decide)))
              have n2_ := Aside0.mk (blk_grown (g := gb306) (o := .cells #[.slice none 0 0, .int .u64 0, .int .u64 0, .int .i64 0, .int .i64 0] 72 (0, 0)) (by (with_reducible repeat (first | refine blk_drewN ?_ _ | refine blk_drew ?_ | refine blk_alloc ?_ _)); exact BK306.out) hg (Kd.R_ne HO_308000.out BK306.out (by decide)))
              have n3_ := Aside0.mk (blk_grown (g := gb307) (o := .cells #[u308000, .int .u64 0, .int .u64 0, .int .i64 (x308000_1.length : Int), .int .i64 (wrap64 ((x308000_1.length : Int) + (t320.length : Int)))] 72 (0, 0)) (by (with_reducible repeat (first | refine blk_drewN ?_ _ | refine blk_drew ?_ | refine blk_alloc ?_ _)); exact BK307.out) hg (Kd.R_ne HO_308000.out BK307.out (by decide)))
              have n4_ := Aside0.mk (blk_grown (g := gb309) (o := .cells #[.int .u64 ((rd_T34 l1 x12_1).f0), .int .u64 ((rd_T34 l1 x12_1).f1)] 34 (0, 0)) (by (with_reducible repeat (first | refine blk_drewN ?_ _ | refine blk_drew ?_ | refine blk_alloc ?_ _)); exact BK309.out) hg (Kd.R_ne HO_308000.out BK309.out (by decide)))
              have n5_ := Aside0.mk (hb)
              have n6_ := Aside0.mk (ho)
              clear HO_8
              clear BK305
              clear BK306
              clear BK307
              clear BK309
              clear HB
              clear HO_308000
              have HO_8 := n0_
              have BK305 := n1_
              have BK306 := n2_
              have BK307 := n3_
              have BK309 := n4_
              have HB := n5_
              have HO326 := n6_
              clear n0_ n1_ n2_ n3_ n4_ n5_ n6_
              clear ho hb hg hat
              obtain ⟨Ao67, co67, eo67⟩ := Kd.R_slice HO326.out
              (first | subst eo67 | (injection eo67 with f1_ f2_ f3_; have f4_ := f1_.symm; have f5_ := f3_.symm; clear f1_ f2_ f3_; subst f4_; subst f5_))
              refine hK.out _ _ ?_
              clear hK K
              refine norm_ (a' := ?_) ?_ ?_
              rotate_left
              ·show Act.put _ (some 76) _ = _
               simp only [Act.put, List.setIfInBounds_toArray, List.set_cons_zero, List.set_cons_succ, i64_w, i32_w]
               rfl
              refine pure_ (i := 8) (N := some 77) (v := ?_) (a' := ?_) #[true, true, true, true, true, true, true, true, true, false] rfl rfl (any_of HT_.out (by kernel_rfl)) (fun _ _ _ h => h) (Or.inl ⟨by rfl, ?_⟩) ?_ ?_
              rotate_left
              ·intro w'
               go_simp
               with_reducible rfl
              rotate_left
              ·simp only [Act.put, List.setIfInBounds_toArray, List.set_cons_zero, List.set_cons_succ, i64_w, i32_w]
               rfl
              refine last_ (i := 9) (N := none) #[true, true, true, true, true, true, true, true, true, true] rfl rfl (one_of HT_.out (by kernel_rfl)) (by decide) (fun K hK => ?_)
              have hs68 : w66.cell? ⟨gb307, 0, none⟩ = some (u308000) := (blk_cell BK307.out 0).trans rfl
              have hfs68 := blk_frozen BK307.out 0
              have hns68_0 := NB305_307.out
              have hns68_1 := NB306_307.out
              have hns68_3 := NB309_307.out
              have hms68_0 := NB307_305.out
              have hms68_1 := NB307_306.out
              have hms68_3 := NB307_309.out
              refine skip_ (w1 := ?_) (by rfl) rfl ?_ ?_
              rotate_left
              ·go_simp
               rfl
              refine hK.out _ _ ?_
              clear hK K
              refine done_ (done_of HT_.out (by kernel_rfl)) ?_
              try go_wp2
              go_roundg k2
              case measure => have := HK1.out; have := HK2.out; omega
              case rel => exact ⟨(wrap64 (x9_2 - 1)), (y324), (.slice Ao67 y324.length co67), (by first | rfl | (simp; done) | (simp [*]; done)), H', ⟨by have := HK1.out; have := HK2.out; omega⟩, ⟨by (with_reducible repeat (first | apply Kd.R_alloc | apply Kd.R_drewN | apply Kd.R_drew)); exact Kd.R_mono (Kd.R_far (p := ⟨gb307, 0, none⟩) (Kd.R_types HO_8.out BK307.out (by decide)) (fun _ hk => hk.2) (.slice Ao67 y324.length co67)) (fun _ hk => hk.1.2)⟩, ⟨by (with_reducible repeat (first | apply Kd.R_alloc | apply Kd.R_drewN | apply Kd.R_drew)); exact Kd.R_mono (Kd.R_far (p := ⟨gb307, 0, none⟩) (Kd.R_types HO326.out BK307.out (by decide)) (fun _ hk => hk.2) (.slice Ao67 y324.length co67)) (fun _ hk => hk.1)⟩, ⟨by (with_reducible repeat (first | refine blk_drewN ?_ _ | refine blk_drew ?_ | refine blk_alloc ?_ _)); refine blk_far ?_ NB305_307.out _; (with_reducible repeat (first | refine blk_drewN ?_ _ | refine blk_drew ?_ | refine blk_alloc ?_ _)); exact BK305.out⟩, ⟨by (with_reducible repeat (first | refine blk_drewN ?_ _ | refine blk_drew ?_ | refine blk_alloc ?_ _)); refine blk_far ?_ NB306_307.out _; (with_reducible repeat (first | refine blk_drewN ?_ _ | refine blk_drew ?_ | refine blk_alloc ?_ _)); exact BK306.out⟩, ⟨by (with_reducible repeat (first | refine blk_drewN ?_ _ | refine blk_drew ?_ | refine blk_alloc ?_ _)); refine blk_put (cs := #[u308000, .int .u64 0, .int .u64 0, .int .i64 (x308000_1.length : Int), .int .i64 (wrap64 ((x308000_1.length : Int) + (t320.length : Int)))]) ?_ 0 _ rfl; (with_reducible repeat (first | refine blk_drewN ?_ _ | refine blk_drew ?_ | refine blk_alloc ?_ _)); exact BK307.out⟩, ⟨by (with_reducible repeat (first | refine blk_drewN ?_ _ | refine blk_drew ?_ | refine blk_alloc ?_ _)); refine blk_far ?_ NB309_307.out _; (with_reducible repeat (first | refine blk_drewN ?_ _ | refine blk_drew ?_ | refine blk_alloc ?_ _)); exact BK309.out⟩, ⟨by repeat (first | (with_reducible first | exact HB.out | apply below_alloc | apply pw_below_drewN | apply below_drew1 | refine below_set ?_ GE305.out | refine below_set ?_ GE306.out | refine below_set ?_ GE307.out | refine below_set ?_ GE309.out) | exact HB.out)⟩⟩
             ·rw [if_neg c64] at H
              exact absurd H (by simp)
            ·rw [if_neg c63] at H
             exact absurd H (by simp)
           ·rw [if_neg c62] at H
            exact absurd H (by simp)
          ·rw [if_neg c61] at H
           have c61b0 : decide (0 ≤ x9_2) = false := decide_eq_false c61
           clear c61
           have H' := Aside0.mk H
           clear H
           have hnb69 := NB309_305.out
           have hnc69 := NB305_309.out
           have hnb70 := NB309_306.out
           have hnc70 := NB306_309.out
           have hnb71 := NB309_307.out
           have hnc71 := NB307_309.out
           have hcz72_0 : wr.cell? ⟨gb309, 0, none⟩ = some (.int .u64 ((rd_T34 l1 x12_1).f0)) := (blk_cell BK309.out 0).trans rfl
           have hcz72_1 : wr.cell? ⟨gb309, 1, none⟩ = some (.int .u64 ((rd_T34 l1 x12_1).f1)) := (blk_cell BK309.out 1).trans rfl
           have hfz72_0 := blk_frozen BK309.out 0
           have hfz72_1 := blk_frozen BK309.out 1
           have hnb73 := NB305_306.out
           have hnc73 := NB306_305.out
           have hnb74 := NB305_307.out
           have hnc74 := NB307_305.out
           have hcz75_0 : wr.cell? ⟨gb305, 0, none⟩ = some (.int .u64 x306000_1) := (blk_cell BK305.out 0).trans rfl
           have hcz75_1 : wr.cell? ⟨gb305, 1, none⟩ = some (.int .u64 x306001_1) := (blk_cell BK305.out 1).trans rfl
           have hfz75_0 := blk_frozen BK305.out 0
           have hfz75_1 := blk_frozen BK305.out 1
           go_wp2
           go_roundg k2
           case measure => have := HK1.out; have := HK2.out; omega
           case rel => exact ⟨(wrap64 (x12_1 + 1)), (x306000_1), (((rd_T34 l1 x12_1).f1)), (x308000_2), ((x308000_1.length : Int)), ((wrap64 ((x308000_1.length : Int) + (t320.length : Int)))), (u308000), (by first | rfl | (simp; done) | (simp [*]; done)), H', ⟨by have := HK1.out; have := HK2.out; omega⟩, ⟨by (with_reducible repeat (first | apply Kd.R_alloc | apply Kd.R_drewN | apply Kd.R_drew)); exact Kd.R_mono (Kd.R_far (p := ⟨gb305, 1, none⟩) (Kd.R_types HO_308000.out BK305.out (by decide)) (fun _ hk => hk.2) (.int .u64 ((rd_T34 l1 x12_1).f1))) (fun _ hk => trivial)⟩, ⟨by (with_reducible repeat (first | refine blk_drewN ?_ _ | refine blk_drew ?_ | refine blk_alloc ?_ _)); refine blk_put (cs := #[.int .u64 x306000_1, .int .u64 x306001_1]) ?_ 1 _ rfl; (with_reducible repeat (first | refine blk_drewN ?_ _ | refine blk_drew ?_ | refine blk_alloc ?_ _)); exact BK305.out⟩, ⟨by (with_reducible repeat (first | refine blk_drewN ?_ _ | refine blk_drew ?_ | refine blk_alloc ?_ _)); refine blk_far ?_ NB306_305.out _; (with_reducible repeat (first | refine blk_drewN ?_ _ | refine blk_drew ?_ | refine blk_alloc ?_ _)); exact BK306.out⟩, ⟨by (with_reducible repeat (first | refine blk_drewN ?_ _ | refine blk_drew ?_ | refine blk_alloc ?_ _)); refine blk_far ?_ NB307_305.out _; (with_reducible repeat (first | refine blk_drewN ?_ _ | refine blk_drew ?_ | refine blk_alloc ?_ _)); exact BK307.out⟩, ⟨by repeat (first | (with_reducible first | exact HB.out | apply below_alloc | apply pw_below_drewN | apply below_drew1 | refine below_set ?_ GE305.out | refine below_set ?_ GE306.out | refine below_set ?_ GE307.out | refine below_set ?_ GE309.out) | exact HB.out)⟩⟩
     ·rw [if_neg c8] at H
      exact absurd H (by simp)
    ·rw [if_neg c7] at H
     exact absurd H (by simp)
   ·rw [if_neg c6] at H
    have c6b0 : decide (x12_1 < (l1.length : Int)) = false := decide_eq_false c6
    clear c6
    simp only [Option.some.injEq, Prod.mk.injEq] at H
    obtain ⟨rfl, rfl, rfl, rfl, rfl⟩ := H
    have hnb76 := NB307_305.out
    have hnc76 := NB305_307.out
    have hnb77 := NB307_306.out
    have hnc77 := NB306_307.out
    have hcz78_0 : wr.cell? ⟨gb307, 0, none⟩ = some (u308000) := (blk_cell BK307.out 0).trans rfl
    have hcz78_1 : wr.cell? ⟨gb307, 1, none⟩ = some (.int .u64 0) := (blk_cell BK307.out 1).trans rfl
    have hcz78_2 : wr.cell? ⟨gb307, 2, none⟩ = some (.int .u64 0) := (blk_cell BK307.out 2).trans rfl
    have hcz78_3 : wr.cell? ⟨gb307, 3, none⟩ = some (.int .i64 x308003_1) := (blk_cell BK307.out 3).trans rfl
    have hcz78_4 : wr.cell? ⟨gb307, 4, none⟩ = some (.int .i64 x308004_1) := (blk_cell BK307.out 4).trans rfl
    have hfz78_0 := blk_frozen BK307.out 0
    have hfz78_1 := blk_frozen BK307.out 1
    have hfz78_2 := blk_frozen BK307.out 2
    have hfz78_3 := blk_frozen BK307.out 3
    have hfz78_4 := blk_frozen BK307.out 4
    obtain ⟨Ao79, co79, eo79⟩ := Kd.R_slice HO_308000.out
    subst eo79
    have hnb80 := NB306_305.out
    have hnc80 := NB305_306.out
    have hcz81_0 : wr.cell? ⟨gb306, 0, none⟩ = some (.slice none 0 0) := (blk_cell BK306.out 0).trans rfl
    have hcz81_1 : wr.cell? ⟨gb306, 1, none⟩ = some (.int .u64 0) := (blk_cell BK306.out 1).trans rfl
    have hcz81_2 : wr.cell? ⟨gb306, 2, none⟩ = some (.int .u64 0) := (blk_cell BK306.out 2).trans rfl
    have hcz81_3 : wr.cell? ⟨gb306, 3, none⟩ = some (.int .i64 0) := (blk_cell BK306.out 3).trans rfl
    have hcz81_4 : wr.cell? ⟨gb306, 4, none⟩ = some (.int .i64 0) := (blk_cell BK306.out 4).trans rfl
    have hfz81_0 := blk_frozen BK306.out 0
    have hfz81_1 := blk_frozen BK306.out 1
    have hfz81_2 := blk_frozen BK306.out 2
    have hfz81_3 := blk_frozen BK306.out 3
    have hfz81_4 := blk_frozen BK306.out 4
    go_wp2
    refine bodyPost_ret (results_cell_row rfl _ _ gb306 72 #[.slice Ao79 x308000_1.length co79, .int .u64 0, .int .u64 0, .int .i64 x308003_1, .int .i64 x308004_1] (0, 0) _ rfl (by (with_reducible repeat (first | refine blk_drewN ?_ _ | refine blk_drew ?_ | refine blk_alloc ?_ _)); refine blk_put (cs := #[.slice Ao79 x308000_1.length co79, .int .u64 0, .int .u64 0, .int .i64 x308003_1, .int .i64 0]) ?_ 4 _ rfl; (with_reducible repeat (first | refine blk_drewN ?_ _ | refine blk_drew ?_ | refine blk_alloc ?_ _)); refine blk_put (cs := #[.slice Ao79 x308000_1.length co79, .int .u64 0, .int .u64 0, .int .i64 0, .int .i64 0]) ?_ 3 _ rfl; (with_reducible repeat (first | refine blk_drewN ?_ _ | refine blk_drew ?_ | refine blk_alloc ?_ _)); refine blk_put (cs := #[.slice Ao79 x308000_1.length co79, .int .u64 0, .int .u64 0, .int .i64 0, .int .i64 0]) ?_ 2 _ rfl; (with_reducible repeat (first | refine blk_drewN ?_ _ | refine blk_drew ?_ | refine blk_alloc ?_ _)); refine blk_put (cs := #[.slice Ao79 x308000_1.length co79, .int .u64 0, .int .u64 0, .int .i64 0, .int .i64 0]) ?_ 1 _ rfl; (with_reducible repeat (first | refine blk_drewN ?_ _ | refine blk_drew ?_ | refine blk_alloc ?_ _)); refine blk_put (cs := #[.slice none 0 0, .int .u64 0, .int .u64 0, .int .i64 0, .int .i64 0]) ?_ 0 _ rfl; (with_reducible repeat (first | refine blk_drewN ?_ _ | refine blk_drew ?_ | refine blk_alloc ?_ _)); exact BK306.out) Tryd.underlying72 rfl (by kernel_rfl)) rfl ?_
    exact ⟨_, by first | rfl | (simp [errW_none, errW_some] <;> rfl) | (simp [*, errW_none, errW_some] <;> rfl), by (with_reducible repeat (first | apply Kd.R_alloc | apply Kd.R_drewN | apply Kd.R_drew)); exact Kd.R_mono (Kd.R_far (p := ⟨gb306, 4, none⟩) (Kd.R_far (p := ⟨gb306, 3, none⟩) (Kd.R_far (p := ⟨gb306, 2, none⟩) (Kd.R_far (p := ⟨gb306, 1, none⟩) (Kd.R_far (p := ⟨gb306, 0, none⟩) (Kd.R_types HO_308000.out BK306.out (by decide)) (fun _ hk => hk.2) (.slice Ao79 x308000_1.length co79)) (fun _ hk => hk.2) (.int .u64 0)) (fun _ hk => hk.2) (.int .u64 0)) (fun _ hk => hk.2) (.int .i64 x308003_1)) (fun _ hk => hk.2) (.int .i64 x308004_1)) (fun _ hk => trivial), by repeat (first | (with_reducible first | exact HB.out | apply below_alloc | apply pw_below_drewN | apply below_drew1 | refine below_set ?_ GE305.out | refine below_set ?_ GE306.out | refine below_set ?_ GE307.out) | exact HB.out)⟩
end Go.Proofs.YtijldedhcjkhiaaDoor.I
