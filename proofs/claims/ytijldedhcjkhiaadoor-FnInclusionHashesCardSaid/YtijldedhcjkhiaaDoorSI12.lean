import Derived.Test.YtijldedhcjkhiaaDoorSI0
import Derived.Test.YtijldedhcjkhiaaDoorSI11
namespace Go.Proofs.YtijldedhcjkhiaaDoor.I
open Go.RowKit Go.Proofs.YtijldedhcjkhiaaDoorW.PrintWords Go.Proofs.YtijldedhcjkhiaaDoorW.PrintLast Go.Proofs.YtijldedhcjkhiaaDoorW.PrintMore
attribute [local go_sem] max2_int min2_int max_two min_two max_three min_three max_four min_four   -- for this text's walks alone
set_option linter.unusedVariables false
set_option linter.unusedSimpArgs false
def spec_Folded.l0 : Nat → List (List Int) → List Int → List (List Int) → Int → Int → Int → Int → Int → Int → Int → Int → List (S70) → Int → Int → Int → Int → Option ((List (List Int)))
 | 0, _, _, _, _, _, _, _, _, _, _, _, _, _, _, _, _ => none
 | k + 1, x2, x7, x27, x28, x29, x385000, x385001, x385002, x385003, x385004, x385005, x386000, x386001, x386002, x386003, x386004 => if x29 < x28 then (if 0 ≤ x29 then (if x29 < (x27.length : Int) then ((spec_HashChildren.f k x385000 x385001 x385002 x385003 x385004 x385005 (rd_L1 x27 x29) x7).bind fun t393 => (spec_Folded.l0 k x2 t393 x27 x28 (wrap64 (x29 + 1)) x385000 x385001 x385002 x385003 x385004 x385005 x386000 x386001 x386002 x386003 x386004)) else (none)) else (none)) else ((some (([] : List (List Int)) : List (List Int))).bind fun y396 => (if 0 ≤ x386003 then (if x386003 ≤ (x2.length : Int) then ((some (x2.take (x386003 : Int).toNat : List (List Int))).bind fun y399 => (if y396.length + y399.length < 5864062014805 then ((some (y396 ++ y399 : List (List Int))).bind fun y404 => ((some (([x7] : List (List Int)) : List (List Int))).bind fun y407 => (if y404.length + y407.length < 5864062014805 then ((some (y404 ++ y407 : List (List Int))).bind fun y410 => (if 0 ≤ x386004 then (if x386004 ≤ (x2.length : Int) then ((some (x2.drop (x386004 : Int).toNat : List (List Int))).bind fun y413 => (if y410.length + y413.length < 5864062014805 then (some (y410 ++ y413)) else (none))) else (none)) else (none))) else (none)))) else (none))) else (none)) else (none)))
def spec_Folded.f (k : Nat) (a0_0 : Int) (a0_1 : Int) (a0_2 : Int) (a0_3 : Int) (a0_4 : Int) (a0_5 : Int) (l1_0 : List (S70)) (a1_1 : Int) (a1_2 : Int) (a1_3 : Int) (a1_4 : Int) (l2 : List (List Int)) : Option ((List (List Int))) := if a1_3 = a1_4 then (some l2) else (if 0 ≤ a1_3 then (if a1_3 < (l2.length : Int) then (if 0 ≤ (wrap64 (a1_3 + 1)) then (if (wrap64 (a1_3 + 1)) ≤ a1_4 then (if a1_4 ≤ (l2.length : Int) then ((some ((l2.take (a1_4 : Int).toNat).drop ((wrap64 (a1_3 + 1)) : Int).toNat : List (List Int))).bind fun y387 => (spec_Folded.l0 k l2 (rd_L1 l2 a1_3) y387 (y387.length : Int) 0 a0_0 a0_1 a0_2 a0_3 a0_4 a0_5 l1_0 a1_1 a1_2 a1_3 a1_4)) else (none)) else (none)) else (none)) else (none)) else (none))
theorem spec_Folded.mono_l : ∀ k, (∀ y0 y1 y2 y3 y4 y5 y6 y7 y8 y9 y10 y11 y12 y13 y14 y15, LeO (spec_Folded.l0 k y0 y1 y2 y3 y4 y5 y6 y7 y8 y9 y10 y11 y12 y13 y14 y15) (spec_Folded.l0 (k + 1) y0 y1 y2 y3 y4 y5 y6 y7 y8 y9 y10 y11 y12 y13 y14 y15))
 | 0 => fun _ _ _ _ _ _ _ _ _ _ _ _ _ _ _ _ r h => by simp [spec_Folded.l0] at h
 | k + 1 => by
  have ih0 := spec_Folded.mono_l k
  ·intro y0 y1 y2 y3 y4 y5 y6 y7 y8 y9 y10 y11 y12 y13 y14 y15
   unfold spec_Folded.l0
   repeat' first
   | (with_reducible exact ih0 _ _ _ _ _ _ _ _ _ _ _ _ _ _ _ _)
   | (with_reducible exact spec_HashChildren.mono _ _ _ _ _ _ _ _ _)
   | (with_reducible exact LeO.refl _)
   | (with_reducible exact LeO.none _)
   | (with_reducible refine LeO.ite ?_ ?_)
   | (with_reducible refine LeO.bind ?_ (fun _ => ?_))
   | exact ih0 _ _ _ _ _ _ _ _ _ _ _ _ _ _ _ _
   | exact spec_HashChildren.mono _ _ _ _ _ _ _ _ _
   | exact LeO.none _
   | refine LeO.ite ?_ ?_
   | refine LeO.bind ?_ (fun _ => ?_)
theorem spec_Folded.mono : ∀ a0 a1 a2 a3 a4 a5 a6 a7 a8 a9 a10 a11 k, LeO (spec_Folded.f k a0 a1 a2 a3 a4 a5 a6 a7 a8 a9 a10 a11) (spec_Folded.f (k + 1) a0 a1 a2 a3 a4 a5 a6 a7 a8 a9 a10 a11) := by
 intro a0 a1 a2 a3 a4 a5 a6 a7 a8 a9 a10 a11 k
 have ih0 := spec_Folded.mono_l k
 unfold spec_Folded.f
 repeat' first
   | (with_reducible exact ih0 _ _ _ _ _ _ _ _ _ _ _ _ _ _ _ _)
   | (with_reducible exact spec_HashChildren.mono _ _ _ _ _ _ _ _ _)
   | (with_reducible exact LeO.refl _)
   | (with_reducible exact LeO.none _)
   | (with_reducible refine LeO.ite ?_ ?_)
   | (with_reducible refine LeO.bind ?_ (fun _ => ?_))
   | exact ih0 _ _ _ _ _ _ _ _ _ _ _ _ _ _ _ _
   | exact spec_HashChildren.mono _ _ _ _ _ _ _ _ _
   | exact LeO.none _
   | refine LeO.ite ?_ ?_
   | refine LeO.bind ?_ (fun _ => ?_)
def spec_Folded.T9 : Bool × List (List Nat × List Nat) := (true, [([], []), ([], []), ([], []), ([2], [2]), ([1, 3], [1, 3]), ([0, 4], [0, 4]), ([], []), ([6], [6]), ([5, 7, 5], [5, 7]), ([], []), ([], []), ([10], [10]), ([9, 11], [9, 11]), ([8, 12, 8], [8, 12]), ([13, 13, 0, 1, 2, 3, 4, 5, 6, 7, 8, 9, 10, 11, 12, 13], [13])])
def spec_Folded.B9 : List Nat := [0, 0, 0, 4, 14, 31, 0, 64, 255, 0, 0, 1024, 3584, 8191, 16383]
theorem spec_Folded.tab9 : rtab .any (opsOf Tryd.f45 9) = spec_Folded.T9 := by kernel_rfl
theorem spec_Folded.bits9 : waitsOk spec_Folded.T9.2 spec_Folded.B9 = true := by kernel_rfl
set_option maxHeartbeats 8000000 in
set_option maxRecDepth 100000 in
theorem spec_Folded.calls (k : Nat) (a0_0 : Int) (a0_1 : Int) (a0_2 : Int) (a0_3 : Int) (a0_4 : Int) (a0_5 : Int) (A1_0 : Option Addr) (c1_0 : Nat) (l1_0 : List (S70)) (a1_1 : Int) (a1_2 : Int) (a1_3 : Int) (a1_4 : Int) (P2_ : Nat → Prop) (A2 : Option Addr) (c2 : Nat) (l2 : List (List Int)) (r : List (List Int)) (w : World) (hr1_0 : Kd.C k70 w A1_0 l1_0.length l1_0) (hc1_0 : l1_0.length ≤ c1_0) (hs2 : Kd.V (Kd.slice 5 (Kd.int .u8)) 42 w w.heap.size (fun k_ => P2_ k_) (.slice A2 l2.length c2) l2) (h : spec_Folded.f k a0_0 a0_1 a0_2 a0_3 a0_4 a0_5 l1_0 a1_1 a1_2 a1_3 a1_4 l2 = some r) :
  Calls Tryd.prog 45 #[.agg #[.int .i64 a0_0, .int .i64 a0_1, .int .i64 a0_2, .int .u64 a0_3, .int .u64 a0_4, .int .u64 a0_5], .agg #[.slice A1_0 l1_0.length c1_0, .int .u64 a1_1, .int .u64 a1_2, .int .i64 a1_3, .int .i64 a1_4], .slice A2 l2.length c2] w fun e w' => ∃ v0_ : Value, e = .returned (v0_) ∧ Kd.V (Kd.slice 5 (Kd.int .u8)) 42 w' w.heap.size (fun k_ => (P2_ k_ ∨ w.heap.size ≤ k_)) v0_ r ∧ Below w.heap.size w w' := by
 have hu37 := Tryd.underlying37
 have hu72 := Tryd.underlying72
 have HR1_0 := Aside0.mk hr1_0
 have HC1_0 := Aside0.mk hc1_0
 clear hr1_0 hc1_0
 have HO2 := Aside0.mk (show Kd.V (Kd.slice 5 (Kd.int .u8)) 42 w w.heap.size (fun k_ => (P2_ k_ ∨ w.heap.size ≤ k_)) (.slice A2 l2.length c2) l2 from Kd.V_mono hs2 (fun k_ hk => .inl hk))
 have HB := Aside0.mk (Below.refl w.heap.size w)
 have H : (if a1_3 = a1_4 then (some l2) else (if 0 ≤ a1_3 then (if a1_3 < (l2.length : Int) then (if 0 ≤ (wrap64 (a1_3 + 1)) then (if (wrap64 (a1_3 + 1)) ≤ a1_4 then (if a1_4 ≤ (l2.length : Int) then ((some ((l2.take (a1_4 : Int).toNat).drop ((wrap64 (a1_3 + 1)) : Int).toNat : List (List Int))).bind fun y387 => (spec_Folded.l0 k l2 (rd_L1 l2 a1_3) y387 (y387.length : Int) 0 a0_0 a0_1 a0_2 a0_3 a0_4 a0_5 l1_0 a1_1 a1_2 a1_3 a1_4)) else (none)) else (none)) else (none)) else (none)) else (none))) = some r := h
 clear h
 by_cases c4 : a1_3 = a1_4
 ·rw [if_pos c4] at H
  have c4b0 : (a1_3 == a1_4) = true := beq_iff_eq.mpr c4
  have c4b1 : (a1_3 != a1_4) = false := bne_eq_false_iff_eq.mpr c4
  clear c4
  obtain rfl := Option.some.inj H
  go_enter Tryd.func45, Tryd.ntmps45
  go_wp2_with (first | ((with_reducible refine gate_dst (N := 3) rfl ?_); refine box_event ?hg (N := 3) ?hd (cs := #[.int .i64 a0_0, .int .i64 a0_1, .int .i64 a0_2, .int .u64 a0_3, .int .u64 a0_4, .int .u64 a0_5]) (t := 37) ?hr ?_; (case hd => rfl); (case hg => rfl); (case hr => first | (go_simp; done) | (go_simp; rfl)); intro gb384 hg w5 hbox hb; have n0_ := Aside0.mk (Kd.V_below (Kd.V_elderB (by (with_reducible repeat (first | apply Kd.V_alloc | apply Kd.V_drewN | apply Kd.V_drew)); exact HO2.out) gb384 (Nat.le_of_eq hg.symm)) hb); have n1_ := Aside0.mk (below_step (by repeat (first | (with_reducible first | exact HB.out | apply below_alloc | apply pw_below_drewN | apply below_drew1) | exact HB.out)) hb); have n2_ := Aside0.mk (hbox); have n3_ := Aside0.mk ((by rw [hg]; exact (below_size (by repeat (first | (with_reducible first | exact HB.out | apply below_alloc | apply pw_below_drewN | apply below_drew1) | exact HB.out))) : w.heap.size ≤ gb384)); have n4_ := Aside0.mk ((by rw [hg]; exact (below_size (by repeat (first | (with_reducible first | exact HB.out | apply below_alloc | apply pw_below_drewN | apply below_drew1) | exact HB.out))) : w.heap.size ≤ gb384)); clear HO2; clear HB; have HO2 := n0_; have HB := n1_; have BK384 := n2_; have GW384 := n3_; have GE384 := n4_; clear n0_ n1_ n2_ n3_ n4_; clear hb hbox hg) | ((with_reducible refine gate_dst (N := 4) rfl ?_); refine box_event ?hg (N := 4) ?hd (cs := #[.slice A1_0 l1_0.length c1_0, .int .u64 a1_1, .int .u64 a1_2, .int .i64 a1_3, .int .i64 a1_4]) (t := 72) ?hr ?_; (case hd => rfl); (case hg => rfl); (case hr => first | (go_simp; done) | (go_simp; rfl)); intro gb385 hg w6 hbox hb; have n0_ := Aside0.mk (Kd.V_below (Kd.V_elderB (by (with_reducible repeat (first | apply Kd.V_alloc | apply Kd.V_drewN | apply Kd.V_drew)); exact HO2.out) gb385 (Nat.le_of_eq hg.symm)) hb); have n1_ := Aside0.mk (blk_below (g := gb384) (o := .cells #[.int .i64 a0_0, .int .i64 a0_1, .int .i64 a0_2, .int .u64 a0_3, .int .u64 a0_4, .int .u64 a0_5] 37 (0, 0)) (by (with_reducible repeat (first | refine blk_drewN ?_ _ | refine blk_drew ?_ | refine blk_alloc ?_ _)); exact BK384.out) hb); have n2_ := Aside0.mk (below_step (by repeat (first | (with_reducible first | exact HB.out | apply below_alloc | apply pw_below_drewN | apply below_drew1 | refine below_set ?_ GE384.out) | exact HB.out)) hb); have n3_ := Aside0.mk (hbox); have n4_ := Aside0.mk ((by rw [hg]; exact (below_size (by repeat (first | (with_reducible first | exact HB.out | apply below_alloc | apply pw_below_drewN | apply below_drew1 | refine below_set ?_ GE384.out) | exact HB.out))) : w.heap.size ≤ gb385)); have n5_ := Aside0.mk ((by rw [hg]; exact (below_size (by repeat (first | (with_reducible first | exact HB.out | apply below_alloc | apply pw_below_drewN | apply below_drew1 | refine below_set ?_ GE384.out) | exact HB.out))) : w.heap.size ≤ gb385)); have n6_ := Aside0.mk ((by rw [hg]; exact Nat.ne_of_lt (blk_lt (g := gb384) (o := .cells #[.int .i64 a0_0, .int .i64 a0_1, .int .i64 a0_2, .int .u64 a0_3, .int .u64 a0_4, .int .u64 a0_5] 37 (0, 0)) (by (with_reducible repeat (first | refine blk_drewN ?_ _ | refine blk_drew ?_ | refine blk_alloc ?_ _)); exact BK384.out)) : gb384 ≠ gb385)); have n7_ := Aside0.mk ((by rw [hg]; exact Nat.ne_of_gt (blk_lt (g := gb384) (o := .cells #[.int .i64 a0_0, .int .i64 a0_1, .int .i64 a0_2, .int .u64 a0_3, .int .u64 a0_4, .int .u64 a0_5] 37 (0, 0)) (by (with_reducible repeat (first | refine blk_drewN ?_ _ | refine blk_drew ?_ | refine blk_alloc ?_ _)); exact BK384.out)) : gb385 ≠ gb384)); clear HO2; clear BK384; clear HB; have HO2 := n0_; have BK384 := n1_; have HB := n2_; have BK385 := n3_; have GW385 := n4_; have GE385 := n5_; have NB384_385 := n6_; have NB385_384 := n7_; clear n0_ n1_ n2_ n3_ n4_ n5_ n6_ n7_; clear hb hbox hg; have hnb7 := NB385_384.out; have hnc7 := NB384_385.out; have hcz8_0 : w6.cell? ⟨gb385, 0, none⟩ = some (.slice A1_0 l1_0.length c1_0) := (blk_cell BK385.out 0).trans rfl; have hcz8_1 : w6.cell? ⟨gb385, 1, none⟩ = some (.int .u64 a1_1) := (blk_cell BK385.out 1).trans rfl; have hcz8_2 : w6.cell? ⟨gb385, 2, none⟩ = some (.int .u64 a1_2) := (blk_cell BK385.out 2).trans rfl; have hcz8_3 : w6.cell? ⟨gb385, 3, none⟩ = some (.int .i64 a1_3) := (blk_cell BK385.out 3).trans rfl; have hcz8_4 : w6.cell? ⟨gb385, 4, none⟩ = some (.int .i64 a1_4) := (blk_cell BK385.out 4).trans rfl; have hfz8_0 := blk_frozen BK385.out 0; have hfz8_1 := blk_frozen BK385.out 1; have hfz8_2 := blk_frozen BK385.out 2; have hfz8_3 := blk_frozen BK385.out 3; have hfz8_4 := blk_frozen BK385.out 4))
  go_ret
  exact ⟨_, by first | rfl | (simp [errW_none, errW_some] <;> rfl) | (simp [*, errW_none, errW_some] <;> rfl), by (with_reducible repeat (first | apply Kd.V_alloc | apply Kd.V_drewN | apply Kd.V_drew)); exact Kd.V_mono HO2.out (fun _ hk => hk.1.1), by repeat (first | (with_reducible first | exact HB.out | apply below_alloc | apply pw_below_drewN | apply below_drew1 | refine below_set ?_ GE384.out | refine below_set ?_ GE385.out) | exact HB.out)⟩
 ·rw [if_neg c4] at H
  have c4b0 : (a1_3 == a1_4) = false := beq_eq_false_iff_ne.mpr c4
  have c4b1 : (a1_3 != a1_4) = true := bne_iff_ne.mpr c4
  by_cases c9 : 0 ≤ a1_3
  ·rw [if_pos c9] at H
   have c9b0 : decide (0 ≤ a1_3) = true := decide_eq_true c9
   clear c9
   by_cases c10 : a1_3 < (l2.length : Int)
   ·rw [if_pos c10] at H
    have c10b0 : decide (a1_3 < (l2.length : Int)) = true := decide_eq_true c10
    clear c10
    obtain ⟨ji11, hji11⟩ : ∃ j_ : Int, (wrap64 (a1_3 + 1)) = j_ := ⟨_, rfl⟩
    replace H : (if 0 ≤ (ji11) then (if (ji11) ≤ a1_4 then (if a1_4 ≤ (l2.length : Int) then ((some ((l2.take (a1_4 : Int).toNat).drop ((ji11) : Int).toNat : List (List Int))).bind fun y387 => (spec_Folded.l0 k l2 (rd_L1 l2 a1_3) y387 (y387.length : Int) 0 a0_0 a0_1 a0_2 a0_3 a0_4 a0_5 l1_0 a1_1 a1_2 a1_3 a1_4)) else (none)) else (none)) else (none)) = some r := by first | (rw [hji11] at H; exact H) | (simp only [hji11] at H ⊢; exact H)
    have hji11w : (IntKind.i64.wrap (a1_3 + 1)) = ji11 := (i64_w _).trans hji11
    by_cases c12 : 0 ≤ (ji11)
    ·rw [if_pos c12] at H
     have c12b0 := eq_true c12
     have c12b1 : decide (0 ≤ (ji11)) = true := decide_eq_true c12
     clear c12
     by_cases c13 : (ji11) ≤ a1_4
     ·rw [if_pos c13] at H
      have c13b0 := eq_true c13
      have c13b1 : decide ((ji11) ≤ a1_4) = true := decide_eq_true c13
      clear c13
      by_cases c14 : a1_4 ≤ (l2.length : Int)
      ·rw [if_pos c14] at H
       have c14b0 := eq_true c14
       have c14b1 : decide (a1_4 ≤ (l2.length : Int)) = true := decide_eq_true c14
       clear c14
       obtain ⟨y387, hy387⟩ : ∃ y_ : List (List Int), y_ = ((l2.take (a1_4 : Int).toNat).drop ((ji11) : Int).toNat) := ⟨_, rfl⟩
       replace H : (spec_Folded.l0 k l2 (rd_L1 l2 a1_3) y387 (y387.length : Int) 0 a0_0 a0_1 a0_2 a0_3 a0_4 a0_5 l1_0 a1_1 a1_2 a1_3 a1_4) = some r := by first | (rw [hy387]; with_reducible exact H) | (have H2_ := (Option.bind_some _ _).symm.trans H; rw [hy387]; with_reducible exact H2_) | (have H2_ := (Option.bind_some _ _).symm.trans H; with_reducible exact H2_) | with_reducible exact H | (rw [hy387]; exact H) | exact H
       have Ny387 := Aside0.mk hy387
       clear hy387
       have H' := Aside0.mk H
       clear H
       go_enter Tryd.func45, Tryd.ntmps45
       go_wp2_with (first | ((with_reducible refine gate_dst (N := 3) rfl ?_); refine box_event ?hg (N := 3) ?hd (cs := #[.int .i64 a0_0, .int .i64 a0_1, .int .i64 a0_2, .int .u64 a0_3, .int .u64 a0_4, .int .u64 a0_5]) (t := 37) ?hr ?_; (case hd => rfl); (case hg => rfl); (case hr => first | (go_simp; done) | (go_simp; rfl)); intro gb384 hg w15 hbox hb; have n0_ := Aside0.mk (Kd.V_below (Kd.V_elderB (by (with_reducible repeat (first | apply Kd.V_alloc | apply Kd.V_drewN | apply Kd.V_drew)); exact HO2.out) gb384 (Nat.le_of_eq hg.symm)) hb); have n1_ := Aside0.mk (below_step (by repeat (first | (with_reducible first | exact HB.out | apply below_alloc | apply pw_below_drewN | apply below_drew1) | exact HB.out)) hb); have n2_ := Aside0.mk (hbox); have n3_ := Aside0.mk ((by rw [hg]; exact (below_size (by repeat (first | (with_reducible first | exact HB.out | apply below_alloc | apply pw_below_drewN | apply below_drew1) | exact HB.out))) : w.heap.size ≤ gb384)); have n4_ := Aside0.mk ((by rw [hg]; exact (below_size (by repeat (first | (with_reducible first | exact HB.out | apply below_alloc | apply pw_below_drewN | apply below_drew1) | exact HB.out))) : w.heap.size ≤ gb384)); clear HO2; clear HB; have HO2 := n0_; have HB := n1_; have BK384 := n2_; have GW384 := n3_; have GE384 := n4_; clear n0_ n1_ n2_ n3_ n4_; clear hb hbox hg) | ((with_reducible refine gate_dst (N := 4) rfl ?_); refine box_event ?hg (N := 4) ?hd (cs := #[.slice A1_0 l1_0.length c1_0, .int .u64 a1_1, .int .u64 a1_2, .int .i64 a1_3, .int .i64 a1_4]) (t := 72) ?hr ?_; (case hd => rfl); (case hg => rfl); (case hr => first | (go_simp; done) | (go_simp; rfl)); intro gb385 hg w16 hbox hb; have n0_ := Aside0.mk (Kd.V_below (Kd.V_elderB (by (with_reducible repeat (first | apply Kd.V_alloc | apply Kd.V_drewN | apply Kd.V_drew)); exact HO2.out) gb385 (Nat.le_of_eq hg.symm)) hb); have n1_ := Aside0.mk (blk_below (g := gb384) (o := .cells #[.int .i64 a0_0, .int .i64 a0_1, .int .i64 a0_2, .int .u64 a0_3, .int .u64 a0_4, .int .u64 a0_5] 37 (0, 0)) (by (with_reducible repeat (first | refine blk_drewN ?_ _ | refine blk_drew ?_ | refine blk_alloc ?_ _)); exact BK384.out) hb); have n2_ := Aside0.mk (below_step (by repeat (first | (with_reducible first | exact HB.out | apply below_alloc | apply pw_below_drewN | apply below_drew1 | refine below_set ?_ GE384.out) | exact HB.out)) hb); have n3_ := Aside0.mk (hbox); have n4_ := Aside0.mk ((by rw [hg]; exact (below_size (by repeat (first | (with_reducible first | exact HB.out | apply below_alloc | apply pw_below_drewN | apply below_drew1 | refine below_set ?_ GE384.out) | exact HB.out))) : w.heap.size ≤ gb385)); have n5_ := Aside0.mk ((by rw [hg]; exact (below_size (by repeat (first | (with_reducible first | exact HB.out | apply below_alloc | apply pw_below_drewN | apply below_drew1 | refine below_set ?_ GE384.out) | exact HB.out))) : w.heap.size ≤ gb385)); have n6_ := Aside0.mk ((by rw [hg]; exact Nat.ne_of_lt (blk_lt (g := gb384) (o := .cells #[.int .i64 a0_0, .int .i64 a0_1, .int .i64 a0_2, .int .u64 a0_3, .int .u64 a0_4, .int .u64 a0_5] 37 (0, 0)) (by (with_reducible repeat (first | refine blk_drewN ?_ _ | refine blk_drew ?_ | refine blk_alloc ?_ _)); exact BK384.out)) : gb384 ≠ gb385)); have n7_ := Aside0.mk ((by rw [hg]; exact Nat.ne_of_gt (blk_lt (g := gb384) (o := .cells #[.int .i64 a0_0, .int .i64 a0_1, .int .i64 a0_2, .int .u64 a0_3, .int .u64 a0_4, .int .u64 a0_5] 37 (0, 0)) (by (with_reducible repeat (first | refine blk_drewN ?_ _ | refine blk_drew ?_ | refine blk_alloc ?_ _)); exact BK384.out)) : gb385 ≠ gb384)); clear HO2; clear BK384; clear HB; have HO2 := n0_; have BK384 := n1_; have HB := n2_; have BK385 := n3_; have GW385 := n4_; have GE385 := n5_; have NB384_385 := n6_; have NB385_384 := n7_; clear n0_ n1_ n2_ n3_ n4_ n5_ n6_ n7_; clear hb hbox hg; have hnb17 := NB385_384.out; have hnc17 := NB384_385.out; have hcz18_0 : w16.cell? ⟨gb385, 0, none⟩ = some (.slice A1_0 l1_0.length c1_0) := (blk_cell BK385.out 0).trans rfl; have hcz18_1 : w16.cell? ⟨gb385, 1, none⟩ = some (.int .u64 a1_1) := (blk_cell BK385.out 1).trans rfl; have hcz18_2 : w16.cell? ⟨gb385, 2, none⟩ = some (.int .u64 a1_2) := (blk_cell BK385.out 2).trans rfl; have hcz18_3 : w16.cell? ⟨gb385, 3, none⟩ = some (.int .i64 a1_3) := (blk_cell BK385.out 3).trans rfl; have hcz18_4 : w16.cell? ⟨gb385, 4, none⟩ = some (.int .i64 a1_4) := (blk_cell BK385.out 4).trans rfl; have hfz18_0 := blk_frozen BK385.out 0; have hfz18_1 := blk_frozen BK385.out 1; have hfz18_2 := blk_frozen BK385.out 2; have hfz18_3 := blk_frozen BK385.out 3; have hfz18_4 := blk_frozen BK385.out 4; have p386 : 0 ≤ (a1_3 : Int) := of_decide_eq_true (by first | (with_reducible assumption) | assumption); have q386 : a1_3 < (l2.length : Int) := of_decide_eq_true (by first | (with_reducible assumption) | assumption); obtain ⟨ad386, A386_0, c386_0, e386, hx386_0, hl386_0, hi386_0⟩ := at_L1 (Kd.V_reads' HO2.out).2.2 a1_3 p386 q386; cases e386; obtain ⟨ce386, hce386, hMe386, hcc386⟩ := Kd.V_get HO2.out [] a1_3 p386 (by first | exact q386 | exact of_decide_eq_true (by first | (with_reducible assumption) | assumption) | (have e_ := (Kd.V_reads' HO2.out).1; omega)); obtain ⟨ua386_0, uc386_0, rfl, ul386_0, ge386_0⟩ := Kd.FK_slice_open hMe386; have hv386_0 := hcc386 0 _ rfl; rw [Nat.add_zero, show ((Kd.slice 5 (Kd.int .u8))).sz = 1 from rfl, Nat.mul_one] at hv386_0; replace hv386_0 := Option.some.inj (hv386_0.symm.trans hx386_0); injection hv386_0 with hva_ hvn_ hvc_; rw [hva_] at ge386_0; rw [hvc_] at ul386_0; have HL386_0 := Aside0.mk (show Kd.V (Kd.int .u8) 5 _ w.heap.size _ _ (rd_L1 l2 a1_3) from Kd.V_mk ul386_0 ge386_0); clear hva_ hvn_ hvc_ ge386_0 ul386_0; clear hcc386 hce386; have HR386_0 := Aside0.mk hi386_0; have HC386_0 := Aside0.mk hl386_0; clear hi386_0 hl386_0; replace p386 := eq_true p386; replace q386 := eq_true q386; have q19 : (a1_4 : Int) ≤ ((l2.length : Int) : Int) := of_decide_eq_true (by first | (with_reducible assumption) | assumption); obtain ⟨i019, hi019, _, hsz19, _⟩ := info_parts info42; have hroom19 : l2.length ≤ c2 := (Kd.V_reads' HO2.out).2.1; have hC19 : Kd.F (Kd.slice 5 (Kd.int .u8)) _ _ (some ad386) l2.length l2 := (Kd.V_at (base := w.heap.size) HO2.out).2.2; have ql19 : ((ji11) : Int) ≤ (a1_4 : Int) := of_decide_eq_true (by first | (with_reducible assumption) | assumption); have q019 : (0 : Int) ≤ ((ji11) : Int) := of_decide_eq_true (by first | (with_reducible assumption) | assumption); have hcut19 := cut_mid (P := Tryd.prog) 38 42 .i64 .i64 Tryd.underlying38 hi019 1 hsz19 (some ad386) l2.length c2 (ji11) a1_4 q019 ql19 q19 hroom19; have hr19 := Kd.F_mid (lo := ((ji11) : Int).toNat) (hi := (a1_4 : Int).toNat) (c := c2) hC19 (by omega) (by omega) hroom19; obtain ⟨A19, hA19⟩ : ∃ A1q_, A1q_ = (if c2 = ((ji11) : Int).toNat then (some ad386) else ((some ad386) : Option Addr).map (·.add (((ji11) : Int).toNat * 1))) := ⟨_, rfl⟩; obtain ⟨c19, hc19⟩ : ∃ c1q_, c1q_ = c2 - ((ji11) : Int).toNat := ⟨_, rfl⟩; have hy19 : y387.length = (a1_4 : Int).toNat - ((ji11) : Int).toNat := (by rw [Ny387.out, List.length_drop, List.length_take] <;> omega); rw [show ((l2).take (a1_4 : Int).toNat).drop ((ji11) : Int).toNat = y387 from Ny387.out.symm] at hr19; replace hr19 : Kd.F (Kd.slice 5 (Kd.int .u8)) _ _ A19 y387.length y387 := (by rw [hA19]; exact hr19); rw [← hy19, ← hA19, ← hc19] at hcut19; have HO391 := Aside0.mk (show Kd.V (Kd.slice 5 (Kd.int .u8)) 42 _ w.heap.size _ (.slice A19 y387.length c19) y387 from Kd.V_mk (by rw [hy19, hc19]; exact Nat.sub_le_sub_right (Nat.le_trans (by omega) hroom19) _) hr19); have HC391 := Aside0.mk (show y387.length ≤ c19 from by rw [hy19, hc19]; exact Nat.sub_le_sub_right (Nat.le_trans (by omega) hroom19) _); clear hr19 hC19 hroom19 hi019 hsz19 hc19; have KY19 := Aside0.mk hy19; have KA19 := Aside0.mk hA19; clear hy19 hA19; replace q19 := eq_true q19))
       try simp only [Act.put, List.setIfInBounds_toArray, List.set_cons_zero, List.set_cons_succ]
       go_loopg [7, 29] k (fun kq v7 v29 w' => ∃ (x7_1 : List Int) (x29_1 : Int), v29 = .int .i64 x29_1 ∧ Aside0 (spec_Folded.l0 kq l2 x7_1 y387 (y387.length : Int) x29_1 a0_0 a0_1 a0_2 a0_3 a0_4 a0_5 l1_0 a1_1 a1_2 a1_3 a1_4 = some r) ∧ Aside0 (kq ≤ k) ∧ Aside0 (Kd.V (Kd.slice 5 (Kd.int .u8)) 42 w' w.heap.size (fun k_ => (P2_ k_ ∨ w.heap.size ≤ k_) ∧ k_ ≠ gb384 ∧ k_ ≠ gb385) (.slice (some ad386) l2.length c2) l2) ∧ Aside0 (Kd.V (Kd.int .u8) 5 w' w.heap.size (fun k_ => (P2_ k_ ∨ w.heap.size ≤ k_) ∧ k_ ≠ gb384 ∧ k_ ≠ gb385) v7 x7_1) ∧ Aside0 (Kd.V (Kd.slice 5 (Kd.int .u8)) 42 w' w.heap.size (fun k_ => (P2_ k_ ∨ w.heap.size ≤ k_) ∧ k_ ≠ gb384 ∧ k_ ≠ gb385) (.slice A19 y387.length c19) y387) ∧ Aside0 (w'.heap[gb384]? = some (.cells #[.int .i64 a0_0, .int .i64 a0_1, .int .i64 a0_2, .int .u64 a0_3, .int .u64 a0_4, .int .u64 a0_5] 37 (0, 0))) ∧ Aside0 (w'.heap[gb385]? = some (.cells #[(.slice A1_0 l1_0.length c1_0), .int .u64 a1_1, .int .u64 a1_2, .int .i64 a1_3, .int .i64 a1_4] 72 (0, 0))) ∧ Aside0 (Kd.C (Kd.int .u8) w' A386_0 (rd_L1 l2 a1_3).length (rd_L1 l2 a1_3)) ∧ Aside0 (Below w.heap.size w w'))
       case atStart => exact ⟨(rd_L1 l2 a1_3), (0), (by first | rfl | (simp; done) | (simp [*]; done)), H', ⟨Nat.le_refl _⟩, ⟨by (with_reducible repeat (first | apply Kd.V_alloc | apply Kd.V_drewN | apply Kd.V_drew)); exact Kd.V_mono HO2.out (fun _ hk => ⟨hk.1.1, ⟨hk.1.2, hk.2⟩⟩)⟩, ⟨by (with_reducible repeat (first | apply Kd.V_alloc | apply Kd.V_drewN | apply Kd.V_drew)); exact Kd.V_mono HL386_0.out (fun _ hk => ⟨hk.1.1, ⟨hk.1.2, hk.2⟩⟩)⟩, ⟨by (with_reducible repeat (first | apply Kd.V_alloc | apply Kd.V_drewN | apply Kd.V_drew)); exact Kd.V_mono HO391.out (fun _ hk => ⟨hk.1.1, ⟨hk.1.2, hk.2⟩⟩)⟩, ⟨by (with_reducible repeat (first | refine blk_drewN ?_ _ | refine blk_drew ?_ | refine blk_alloc ?_ _)); exact BK384.out⟩, ⟨by (with_reducible repeat (first | refine blk_drewN ?_ _ | refine blk_drew ?_ | refine blk_alloc ?_ _)); exact BK385.out⟩, ⟨by repeat (first | (with_reducible exact HR386_0.out) | (with_reducible refine Kd.C_alloc ?_ _) | (with_reducible refine Kd.C_drewN ?_ _) | (with_reducible refine Kd.C_drew ?_) | exact HR386_0.out)⟩, ⟨by repeat (first | (with_reducible first | exact HB.out | apply below_alloc | apply pw_below_drewN | apply below_drew1 | refine below_set ?_ GE384.out | refine below_set ?_ GE385.out) | exact HB.out)⟩⟩
       case round =>
        clear H'
        try clear c1
        try clear q1
        try clear c2
        try clear p2
        try clear c3
        try clear p3
        try clear q3
        try clear hx3
        try clear c4
        try clear c4b0
        try clear c4b1
        try clear p6
        try clear c7
        try clear c9
        try clear c9b0
        try clear c10
        try clear c10b0
        try clear c12
        try clear c12b0
        try clear c12b1
        try clear c13
        try clear c13b0
        try clear c13b1
        try clear c14
        try clear c14b0
        try clear c14b1
        try clear c17
        try clear c19
        try clear q19
        try clear hcz18_0
        try clear hcz18_1
        try clear hcz18_2
        try clear hcz18_3
        try clear hcz18_4
        try clear hcz8_0
        try clear hcz8_1
        try clear hcz8_2
        try clear hcz8_3
        try clear hcz8_4
        try clear hfz18_0
        try clear hfz18_1
        try clear hfz18_2
        try clear hfz18_3
        try clear hfz18_4
        try clear hfz8_0
        try clear hfz8_1
        try clear hfz8_2
        try clear hfz8_3
        try clear hfz8_4
        try clear hx386_0
        try clear p386
        try clear q019
        try clear q19
        try clear q386
        obtain ⟨x7_1, x29_1, rfl, HA, HK1, HO_2, HO_7, HO_27, BK384, BK385, HR386_0, HB⟩ := hrel
        cases gk with
        | zero => exact absurd HA.out (by simp [spec_Folded.l0])
        | succ k1 =>
         have H := HA.out
         clear HA
         simp only [spec_Folded.l0] at H
         by_cases c20 : x29_1 < (y387.length : Int)
         ·rw [if_pos c20] at H
          have c20b0 : decide (x29_1 < (y387.length : Int)) = true := decide_eq_true c20
          clear c20
          by_cases c21 : 0 ≤ x29_1
          ·rw [if_pos c21] at H
           have c21b0 : decide (0 ≤ x29_1) = true := decide_eq_true c21
           clear c21
           by_cases c22 : x29_1 < (y387.length : Int)
           ·rw [if_pos c22] at H
            have c22b0 : decide (x29_1 < (y387.length : Int)) = true := decide_eq_true c22
            clear c22
            replace H := Option.bind_eq_some_iff.mp H
            obtain ⟨t393, A230, H⟩ := H
            replace H : (spec_Folded.l0 k1 l2 t393 y387 (y387.length : Int) (wrap64 (x29_1 + 1)) a0_0 a0_1 a0_2 a0_3 a0_4 a0_5 l1_0 a1_1 a1_2 a1_3 a1_4) = some r := H
            have A23 := Aside0.mk A230
            clear A230
            have H' := Aside0.mk H
            clear H
            have p392 : 0 ≤ (x29_1 : Int) := of_decide_eq_true (by first | (with_reducible assumption) | assumption)
            have q392 : x29_1 < (y387.length : Int) := of_decide_eq_true (by first | (with_reducible assumption) | assumption)
            obtain ⟨ad392, A392_0, c392_0, e392, hx392_0, hl392_0, hi392_0⟩ := at_L1 (Kd.V_reads' HO_27.out).2.2 x29_1 p392 q392
            cases e392
            obtain ⟨ce392, hce392, hMe392, hcc392⟩ := Kd.V_get HO_27.out [] x29_1 p392 (by first | exact q392 | exact of_decide_eq_true (by first | (with_reducible assumption) | assumption) | (have e_ := (Kd.V_reads' HO_27.out).1; omega))
            obtain ⟨ua392_0, uc392_0, rfl, ul392_0, ge392_0⟩ := Kd.FK_slice_open hMe392
            have hv392_0 := hcc392 0 _ rfl
            rw [Nat.add_zero, show ((Kd.slice 5 (Kd.int .u8))).sz = 1 from rfl, Nat.mul_one] at hv392_0
            replace hv392_0 := Option.some.inj (hv392_0.symm.trans hx392_0)
            injection hv392_0 with hva_ hvn_ hvc_
            rw [hva_] at ge392_0
            rw [hvc_] at ul392_0
            have HL392_0 := Aside0.mk (show Kd.V (Kd.int .u8) 5 _ w.heap.size _ _ (rd_L1 y387 x29_1) from Kd.V_mk ul392_0 ge392_0)
            clear hva_ hvn_ hvc_ ge392_0 ul392_0
            clear hcc392 hce392
            have HR392_0 := Aside0.mk hi392_0
            have HC392_0 := Aside0.mk hl392_0
            clear hi392_0 hl392_0
            replace p392 := eq_true p392
            replace q392 := eq_true q392
            have hnb24 := NB384_385.out
            have hnc24 := NB385_384.out
            have hcz25_0 : wr.cell? ⟨gb384, 0, none⟩ = some (.int .i64 a0_0) := (blk_cell BK384.out 0).trans rfl
            have hcz25_1 : wr.cell? ⟨gb384, 1, none⟩ = some (.int .i64 a0_1) := (blk_cell BK384.out 1).trans rfl
            have hcz25_2 : wr.cell? ⟨gb384, 2, none⟩ = some (.int .i64 a0_2) := (blk_cell BK384.out 2).trans rfl
            have hcz25_3 : wr.cell? ⟨gb384, 3, none⟩ = some (.int .u64 a0_3) := (blk_cell BK384.out 3).trans rfl
            have hcz25_4 : wr.cell? ⟨gb384, 4, none⟩ = some (.int .u64 a0_4) := (blk_cell BK384.out 4).trans rfl
            have hcz25_5 : wr.cell? ⟨gb384, 5, none⟩ = some (.int .u64 a0_5) := (blk_cell BK384.out 5).trans rfl
            have hfz25_0 := blk_frozen BK384.out 0
            have hfz25_1 := blk_frozen BK384.out 1
            have hfz25_2 := blk_frozen BK384.out 2
            have hfz25_3 := blk_frozen BK384.out 3
            have hfz25_4 := blk_frozen BK384.out 4
            have hfz25_5 := blk_frozen BK384.out 5
            obtain ⟨Ao26, co26, eo26⟩ := Kd.V_slice HO_7.out
            subst eo26
            go_wp2_with (first | ((with_reducible refine gate_callee (f := 75) rfl ?_); refine goesL_ (some 36) rfl rfl Tryd.func75 (by kernel_rfl) rfl #[.agg #[.int .i64 a0_0, .int .i64 a0_1, .int .i64 a0_2, .int .u64 a0_3, .int .u64 a0_4, .int .u64 a0_5], .slice A392_0 (rd_L1 y387 x29_1).length c392_0, .slice Ao26 x7_1.length co26] rfl (by (try simp only [List.map_toArray, List.map_cons, List.map_nil]); first | done | rfl | (simp only [List.length_drop, List.length_take]; rfl)) ?_; (with_reducible refine (spec_HashChildren.calls k1 a0_0 a0_1 a0_2 a0_3 a0_4 a0_5 _ _ (rd_L1 y387 x29_1) _ _ x7_1 t393 _ ?side1 ?side2 ?side3 ?side4 A23.out).mono ?_); (case side1 => repeat (first | exact (by repeat (first | (with_reducible exact HR392_0.out) | (with_reducible refine Kd.C_alloc ?_ _) | (with_reducible refine Kd.C_drewN ?_ _) | (with_reducible refine Kd.C_drew ?_) | exact HR392_0.out)) | (with_reducible refine Kd.C_alloc ?_ _) | (with_reducible refine Kd.C_drewN ?_ _) | (with_reducible refine Kd.C_drew ?_))); (case side2 => exact HC392_0.out); (case side3 => repeat (first | exact (Kd.V_reads' HO_7.out).2.2 | (with_reducible refine Kd.C_alloc ?_ _) | (with_reducible refine Kd.C_drewN ?_ _) | (with_reducible refine Kd.C_drew ?_))); (case side4 => exact (Kd.V_reads' HO_7.out).2.1); rintro e w27 ⟨v394, rfl, ho0, hb⟩; refine ⟨_, rfl, ?_⟩; have n0_ := Aside0.mk (Kd.V_elder' (by (with_reducible repeat (first | apply Kd.V_alloc | apply Kd.V_drewN | apply Kd.V_drew)); exact HO_2.out) (Kd.R_base ho0) hb); have n1_ := Aside0.mk (Kd.V_elder' (by (with_reducible repeat (first | apply Kd.V_alloc | apply Kd.V_drewN | apply Kd.V_drew)); exact HO_7.out) (Kd.R_base ho0) hb); have n2_ := Aside0.mk (Kd.V_elder' (by (with_reducible repeat (first | apply Kd.V_alloc | apply Kd.V_drewN | apply Kd.V_drew)); exact HO_27.out) (Kd.R_base ho0) hb); have n3_ := Aside0.mk (Kd.V_elder' (by (with_reducible repeat (first | apply Kd.V_alloc | apply Kd.V_drewN | apply Kd.V_drew)); exact HL392_0.out) (Kd.R_base ho0) hb); have n4_ := Aside0.mk (Kd.R_lower (Kd.R_newM (M := fun k_ => (w.heap.size ≤ k_)) ho0 (below_size (by repeat (first | (with_reducible first | exact HB.out | apply below_alloc | apply pw_below_drewN | apply below_drew1 | refine below_set ?_ GE384.out | refine below_set ?_ GE385.out) | exact HB.out))) (fun k_ h_ => h_)) (below_size (by repeat (first | (with_reducible first | exact HB.out | apply below_alloc | apply pw_below_drewN | apply below_drew1 | refine below_set ?_ GE384.out | refine below_set ?_ GE385.out) | exact HB.out)))); have n5_ := Aside0.mk (blk_below (g := gb384) (o := .cells #[.int .i64 a0_0, .int .i64 a0_1, .int .i64 a0_2, .int .u64 a0_3, .int .u64 a0_4, .int .u64 a0_5] 37 (0, 0)) (by (with_reducible repeat (first | refine blk_drewN ?_ _ | refine blk_drew ?_ | refine blk_alloc ?_ _)); exact BK384.out) hb); have n6_ := Aside0.mk (blk_below (g := gb385) (o := .cells #[.slice A1_0 l1_0.length c1_0, .int .u64 a1_1, .int .u64 a1_2, .int .i64 a1_3, .int .i64 a1_4] 72 (0, 0)) (by (with_reducible repeat (first | refine blk_drewN ?_ _ | refine blk_drew ?_ | refine blk_alloc ?_ _)); exact BK385.out) hb); have n7_ := Aside0.mk (Kd.C_below (by repeat (first | (with_reducible exact HR386_0.out) | (with_reducible refine Kd.C_alloc ?_ _) | (with_reducible refine Kd.C_drewN ?_ _) | (with_reducible refine Kd.C_drew ?_) | exact HR386_0.out)) hb); have n8_ := Aside0.mk (Kd.C_below (by repeat (first | (with_reducible exact HR392_0.out) | (with_reducible refine Kd.C_alloc ?_ _) | (with_reducible refine Kd.C_drewN ?_ _) | (with_reducible refine Kd.C_drew ?_) | exact HR392_0.out)) hb); have n9_ := Aside0.mk (below_step (by repeat (first | (with_reducible first | exact HB.out | apply below_alloc | apply pw_below_drewN | apply below_drew1 | refine below_set ?_ GE384.out | refine below_set ?_ GE385.out) | exact HB.out)) hb); clear HO_2; clear HO_7; clear HO_27; clear HL392_0; clear BK384; clear BK385; clear HR386_0; clear HR392_0; clear HB; have HO_2 := n0_; have HO_7 := n1_; have HO_27 := n2_; have HL392_0 := n3_; have HO395 := n4_; have BK384 := n5_; have BK385 := n6_; have HR386_0 := n7_; have HR392_0 := n8_; have HB := n9_; clear n0_ n1_ n2_ n3_ n4_ n5_ n6_ n7_ n8_ n9_; (try clear hb); (try clear hb2); (try clear hk); (try clear hi); (try clear ho0)))
            go_roundg k1
            case measure => have := HK1.out; omega
            case rel => exact ⟨(t393), (wrap64 (x29_1 + 1)), (by first | rfl | (simp; done) | (simp [*]; done)), H', ⟨by have := HK1.out; omega⟩, ⟨by (with_reducible repeat (first | apply Kd.V_alloc | apply Kd.V_drewN | apply Kd.V_drew)); exact Kd.V_mono HO_2.out (fun _ hk => ⟨hk.1.1, ⟨hk.1.2.1, hk.1.2.2⟩⟩)⟩, ⟨Kd.V_mono (Kd.R_V (by (with_reducible repeat (first | apply Kd.R_alloc | apply Kd.R_drewN | apply Kd.R_drew)); exact Kd.R_mono (ok' := fun k_ => (w.heap.size ≤ k_) ∧ k_ ≠ gb384 ∧ k_ ≠ gb385) (Kd.R_types (Kd.R_types HO395.out BK384.out (by decide)) BK385.out (by decide)) (fun _ hk => ⟨hk.1.1.1, ⟨hk.1.2, hk.2⟩⟩))) (fun k_ hk => by first | exact ⟨(.inr (hk.1)), hk.2⟩ | exact (.inr (hk)))⟩, ⟨by (with_reducible repeat (first | apply Kd.V_alloc | apply Kd.V_drewN | apply Kd.V_drew)); exact Kd.V_mono HO_27.out (fun _ hk => ⟨hk.1.1, ⟨hk.1.2.1, hk.1.2.2⟩⟩)⟩, ⟨by (with_reducible repeat (first | refine blk_drewN ?_ _ | refine blk_drew ?_ | refine blk_alloc ?_ _)); exact BK384.out⟩, ⟨by (with_reducible repeat (first | refine blk_drewN ?_ _ | refine blk_drew ?_ | refine blk_alloc ?_ _)); exact BK385.out⟩, ⟨by repeat (first | (with_reducible exact HR386_0.out) | (with_reducible refine Kd.C_alloc ?_ _) | (with_reducible refine Kd.C_drewN ?_ _) | (with_reducible refine Kd.C_drew ?_) | exact HR386_0.out)⟩, ⟨by repeat (first | (with_reducible first | exact HB.out | apply below_alloc | apply pw_below_drewN | apply below_drew1 | refine below_set ?_ GE384.out | refine below_set ?_ GE385.out) | exact HB.out)⟩⟩
           ·rw [if_neg c22] at H
            exact absurd H (by simp)
          ·rw [if_neg c21] at H
           exact absurd H (by simp)
         ·rw [if_neg c20] at H
          have c20b0 : decide (x29_1 < (y387.length : Int)) = false := decide_eq_false c20
          clear c20
          obtain ⟨y396, hy396⟩ : ∃ y_ : List (List Int), y_ = (([] : List (List Int))) := ⟨_, rfl⟩
          replace H : (if 0 ≤ a1_3 then (if a1_3 ≤ (l2.length : Int) then ((some (l2.take (a1_3 : Int).toNat : List (List Int))).bind fun y399 => (if y396.length + y399.length < 5864062014805 then ((some (y396 ++ y399 : List (List Int))).bind fun y404 => ((some (([x7_1] : List (List Int)) : List (List Int))).bind fun y407 => (if y404.length + y407.length < 5864062014805 then ((some (y404 ++ y407 : List (List Int))).bind fun y410 => (if 0 ≤ a1_4 then (if a1_4 ≤ (l2.length : Int) then ((some (l2.drop (a1_4 : Int).toNat : List (List Int))).bind fun y413 => (if y410.length + y413.length < 5864062014805 then (some (y410 ++ y413)) else (none))) else (none)) else (none))) else (none)))) else (none))) else (none)) else (none)) = some r := by first | (rw [hy396]; with_reducible exact H) | (have H2_ := (Option.bind_some _ _).symm.trans H; rw [hy396]; with_reducible exact H2_) | (have H2_ := (Option.bind_some _ _).symm.trans H; with_reducible exact H2_) | with_reducible exact H | (rw [hy396]; exact H) | exact H
          have Ny396 := Aside0.mk hy396
          clear hy396
          by_cases c28 : 0 ≤ a1_3
          ·rw [if_pos c28] at H
           have c28b0 := eq_true c28
           have c28b1 : decide (0 ≤ a1_3) = true := decide_eq_true c28
           clear c28
           by_cases c29 : a1_3 ≤ (l2.length : Int)
           ·rw [if_pos c29] at H
            have c29b0 := eq_true c29
            have c29b1 : decide (a1_3 ≤ (l2.length : Int)) = true := decide_eq_true c29
            clear c29
            obtain ⟨y399, hy399⟩ : ∃ y_ : List (List Int), y_ = (l2.take (a1_3 : Int).toNat) := ⟨_, rfl⟩
            replace H : (if y396.length + y399.length < 5864062014805 then ((some (y396 ++ y399 : List (List Int))).bind fun y404 => ((some (([x7_1] : List (List Int)) : List (List Int))).bind fun y407 => (if y404.length + y407.length < 5864062014805 then ((some (y404 ++ y407 : List (List Int))).bind fun y410 => (if 0 ≤ a1_4 then (if a1_4 ≤ (l2.length : Int) then ((some (l2.drop (a1_4 : Int).toNat : List (List Int))).bind fun y413 => (if y410.length + y413.length < 5864062014805 then (some (y410 ++ y413)) else (none))) else (none)) else (none))) else (none)))) else (none)) = some r := by first | (rw [hy399]; with_reducible exact H) | (have H2_ := (Option.bind_some _ _).symm.trans H; rw [hy399]; with_reducible exact H2_) | (have H2_ := (Option.bind_some _ _).symm.trans H; with_reducible exact H2_) | with_reducible exact H | (rw [hy399]; exact H) | exact H
            have Ny399 := Aside0.mk hy399
            clear hy399
            by_cases c30 : y396.length + y399.length < 5864062014805
            ·rw [if_pos c30] at H
             have LMc30 := Aside0.mk c30
             clear c30
             obtain ⟨y404, hy404⟩ : ∃ y_ : List (List Int), y_ = (y396 ++ y399) := ⟨_, rfl⟩
             replace H : ((some (([x7_1] : List (List Int)) : List (List Int))).bind fun y407 => (if y404.length + y407.length < 5864062014805 then ((some (y404 ++ y407 : List (List Int))).bind fun y410 => (if 0 ≤ a1_4 then (if a1_4 ≤ (l2.length : Int) then ((some (l2.drop (a1_4 : Int).toNat : List (List Int))).bind fun y413 => (if y410.length + y413.length < 5864062014805 then (some (y410 ++ y413)) else (none))) else (none)) else (none))) else (none))) = some r := by first | (rw [hy404]; with_reducible exact H) | (have H2_ := (Option.bind_some _ _).symm.trans H; rw [hy404]; with_reducible exact H2_) | (have H2_ := (Option.bind_some _ _).symm.trans H; with_reducible exact H2_) | with_reducible exact H | (rw [hy404]; exact H) | exact H
             have Ny404 := Aside0.mk hy404
             clear hy404
             obtain ⟨y407, hy407⟩ : ∃ y_ : List (List Int), y_ = (([x7_1] : List (List Int))) := ⟨_, rfl⟩
             replace H : (if y404.length + y407.length < 5864062014805 then ((some (y404 ++ y407 : List (List Int))).bind fun y410 => (if 0 ≤ a1_4 then (if a1_4 ≤ (l2.length : Int) then ((some (l2.drop (a1_4 : Int).toNat : List (List Int))).bind fun y413 => (if y410.length + y413.length < 5864062014805 then (some (y410 ++ y413)) else (none))) else (none)) else (none))) else (none)) = some r := by first | (rw [hy407]; with_reducible exact H) | (have H2_ := (Option.bind_some _ _).symm.trans H; rw [hy407]; with_reducible exact H2_) | (have H2_ := (Option.bind_some _ _).symm.trans H; with_reducible exact H2_) | with_reducible exact H | (rw [hy407]; exact H) | exact H
             have Ny407 := Aside0.mk hy407
             clear hy407
             by_cases c31 : y404.length + y407.length < 5864062014805
             ·rw [if_pos c31] at H
              have LMc31 := Aside0.mk c31
              clear c31
              obtain ⟨y410, hy410⟩ : ∃ y_ : List (List Int), y_ = (y404 ++ y407) := ⟨_, rfl⟩
              replace H : (if 0 ≤ a1_4 then (if a1_4 ≤ (l2.length : Int) then ((some (l2.drop (a1_4 : Int).toNat : List (List Int))).bind fun y413 => (if y410.length + y413.length < 5864062014805 then (some (y410 ++ y413)) else (none))) else (none)) else (none)) = some r := by first | (rw [hy410]; with_reducible exact H) | (have H2_ := (Option.bind_some _ _).symm.trans H; rw [hy410]; with_reducible exact H2_) | (have H2_ := (Option.bind_some _ _).symm.trans H; with_reducible exact H2_) | with_reducible exact H | (rw [hy410]; exact H) | exact H
              have Ny410 := Aside0.mk hy410
              clear hy410
              by_cases c32 : 0 ≤ a1_4
              ·rw [if_pos c32] at H
               have c32b0 := eq_true c32
               have c32b1 : decide (0 ≤ a1_4) = true := decide_eq_true c32
               clear c32
               by_cases c33 : a1_4 ≤ (l2.length : Int)
               ·rw [if_pos c33] at H
                have c33b0 := eq_true c33
                have c33b1 : decide (a1_4 ≤ (l2.length : Int)) = true := decide_eq_true c33
                clear c33
                obtain ⟨y413, hy413⟩ : ∃ y_ : List (List Int), y_ = (l2.drop (a1_4 : Int).toNat) := ⟨_, rfl⟩
                replace H : (if y410.length + y413.length < 5864062014805 then (some (y410 ++ y413)) else (none)) = some r := by first | (rw [hy413]; with_reducible exact H) | (have H2_ := (Option.bind_some _ _).symm.trans H; rw [hy413]; with_reducible exact H2_) | (have H2_ := (Option.bind_some _ _).symm.trans H; with_reducible exact H2_) | with_reducible exact H | (rw [hy413]; exact H) | exact H
                have Ny413 := Aside0.mk hy413
                clear hy413
                by_cases c34 : y410.length + y413.length < 5864062014805
                ·rw [if_pos c34] at H
                 have LMc34 := Aside0.mk c34
                 clear c34
                 obtain ⟨y418, hy418⟩ : ∃ y_ : List (List Int), y_ = (y410 ++ y413) := ⟨_, rfl⟩
                 replace H : (some y418) = some r := by first | (rw [hy418]; with_reducible exact H) | (have H2_ := (Option.bind_some _ _).symm.trans H; rw [hy418]; with_reducible exact H2_) | (have H2_ := (Option.bind_some _ _).symm.trans H; with_reducible exact H2_) | with_reducible exact H | (rw [hy418]; exact H) | exact H
                 have Ny418 := Aside0.mk hy418
                 clear hy418
                 obtain rfl := Option.some.inj H
                 try go_wp2
                 have n0_ := Aside0.mk (Kd.V_drew HO_2.out)
                 have n1_ := Aside0.mk (Kd.V_drew HO_7.out)
                 have n2_ := Aside0.mk (Kd.V_drew HO_27.out)
                 have n3_ := Aside0.mk (blk_drew BK384.out)
                 have n4_ := Aside0.mk (blk_drew BK385.out)
                 have n5_ := Aside0.mk (Kd.C_drew HR386_0.out)
                 have n6_ := Aside0.mk (below_drew1 HB.out)
                 clear HO_2
                 clear HO_7
                 clear HO_27
                 clear BK384
                 clear BK385
                 clear HR386_0
                 clear HB
                 have HO_2 := n0_
                 have HO_7 := n1_
                 have HO_27 := n2_
                 have BK384 := n3_
                 have BK385 := n4_
                 have HR386_0 := n5_
                 have HB := n6_
                 clear n0_ n1_ n2_ n3_ n4_ n5_ n6_
                 have q36 : (a1_3 : Int) ≤ ((l2.length : Int) : Int) := of_decide_eq_true (by first | (with_reducible assumption) | assumption)
                 obtain ⟨i036, hi036, _, hsz36, _⟩ := info_parts info42
                 have hroom36 : l2.length ≤ c2 := (Kd.V_reads' HO_2.out).2.1
                 have hC36 : Kd.F (Kd.slice 5 (Kd.int .u8)) _ _ (some ad386) l2.length l2 := (Kd.V_at (base := w.heap.size) HO_2.out).2.2
                 have hcut36 := cut_to (P := Tryd.prog) 38 42 .i64 Tryd.underlying38 hi036 (some ad386) l2.length c2 a1_3 (of_decide_eq_true (by first | (with_reducible assumption) | assumption)) q36 hroom36
                 have hr36 := Kd.F_take (m := (a1_3 : Int).toNat) hC36 (by omega)
                 have hy36 : y399.length = (a1_3 : Int).toNat := (by rw [Ny399.out, List.length_take]; omega)
                 rw [← Ny399.out] at hr36
                 rw [← hy36] at hcut36
                 have HO403 := Aside0.mk (show Kd.V (Kd.slice 5 (Kd.int .u8)) 42 _ w.heap.size _ (.slice (some ad386) y399.length c2) y399 from Kd.V_mk (by omega) hr36)
                 have HC403 := Aside0.mk (show y399.length ≤ c2 from by omega)
                 clear hr36 hC36 hroom36 hi036 hsz36
                 have KY36 := Aside0.mk hy36
                 clear hy36
                 replace q36 := eq_true q36
                 have q37 : (a1_4 : Int) ≤ ((l2.length : Int) : Int) := of_decide_eq_true (by first | (with_reducible assumption) | assumption)
                 obtain ⟨i037, hi037, _, hsz37, _⟩ := info_parts info42
                 have hroom37 : l2.length ≤ c2 := (Kd.V_reads' HO_2.out).2.1
                 have hC37 : Kd.F (Kd.slice 5 (Kd.int .u8)) _ _ (some ad386) l2.length l2 := (Kd.V_at (base := w.heap.size) HO_2.out).2.2
                 have q037 : (0 : Int) ≤ (a1_4 : Int) := of_decide_eq_true (by first | (with_reducible assumption) | assumption)
                 have hcut37 := cut_from (P := Tryd.prog) 38 42 .i64 Tryd.underlying38 hi037 1 hsz37 (some ad386) l2.length c2 a1_4 q037 q37
                 have hr37 := Kd.F_cut (m := (a1_4 : Int).toNat) (c := c2) hC37 (by omega) hroom37
                 obtain ⟨A37, hA37⟩ : ∃ A1q_, A1q_ = (if c2 = (a1_4 : Int).toNat then (some ad386) else ((some ad386) : Option Addr).map (·.add ((a1_4 : Int).toNat * 1))) := ⟨_, rfl⟩
                 obtain ⟨c37, hc37⟩ : ∃ c1q_, c1q_ = c2 - (a1_4 : Int).toNat := ⟨_, rfl⟩
                 have hy37 : y413.length = l2.length - (a1_4 : Int).toNat := (by rw [Ny413.out, List.length_drop] <;> omega)
                 rw [show (l2).drop (a1_4 : Int).toNat = y413 from Ny413.out.symm] at hr37
                 replace hr37 : Kd.F (Kd.slice 5 (Kd.int .u8)) _ _ A37 y413.length y413 := (by rw [hA37]; exact hr37)
                 rw [← hy37, ← hA37, ← hc37] at hcut37
                 have HO417 := Aside0.mk (show Kd.V (Kd.slice 5 (Kd.int .u8)) 42 _ w.heap.size _ (.slice A37 y413.length c37) y413 from Kd.V_mk (by rw [hy37, hc37]; exact Nat.sub_le_sub_right hroom37 _) hr37)
                 have HC417 := Aside0.mk (show y413.length ≤ c37 from by rw [hy37, hc37]; exact Nat.sub_le_sub_right hroom37 _)
                 clear hr37 hC37 hroom37 hi037 hsz37 hc37
                 have KY37 := Aside0.mk hy37
                 have KA37 := Aside0.mk hA37
                 clear hy37 hA37
                 replace q37 := eq_true q37
                 refine start_ (n := 15) (S := fun w' => w'.cell? ⟨gb385, 0, none⟩ = some (.slice A1_0 l1_0.length c1_0) ∧ w'.cell? ⟨gb385, 1, none⟩ = some (.int .u64 a1_1) ∧ w'.cell? ⟨gb385, 2, none⟩ = some (.int .u64 a1_2) ∧ w'.cell? ⟨gb385, 3, none⟩ = some (.int .i64 a1_3) ∧ w'.cell? ⟨gb385, 4, none⟩ = some (.int .i64 a1_4)) (ds := []) #[false, false, false, false, false, false, false, false, false, false, false, false, false, false, false] (by kernel_rfl) rfl rfl ⟨(blk_cell BK385.out 0).trans rfl, (blk_cell BK385.out 1).trans rfl, (blk_cell BK385.out 2).trans rfl, (blk_cell BK385.out 3).trans rfl, (blk_cell BK385.out 4).trans rfl⟩ (fun hHeld => ?_); refine with_tabW spec_Folded.tab9 spec_Folded.bits9 (fun HT_ HW_ => ?_)
                 generalize wr.drew = w35 at HO_2 HO_7 HO_27 BK384 BK385 HR386_0 HB HO403 HO417 hHeld ⊢
                 refine pure_ (i := 1) (N := some 39) (v := ?_) (a' := ?_) #[false, true, false, false, false, false, false, false, false, false, false, false, false, false, false] rfl rfl (any_of HT_.out (by kernel_rfl)) (fun _ _ _ h => h) (Or.inl ⟨by rfl, ?_⟩) ?_ ?_
                 rotate_left
                 ·intro w'
                  go_simp
                  with_reducible rfl
                 rotate_left
                 ·simp only [Act.put, List.setIfInBounds_toArray, List.set_cons_zero, List.set_cons_succ, i64_w, i32_w]
                  rfl
                 refine pure_ (i := 2) (N := some 40) (v := ?_) (a' := ?_) #[false, true, true, false, false, false, false, false, false, false, false, false, false, false, false] rfl rfl (any_of HT_.out (by kernel_rfl)) (fun _ _ _ h => h) (Or.inl ⟨by rfl, ?_⟩) ?_ ?_
                 rotate_left
                 ·intro w'
                  go_simp
                  with_reducible rfl
                 rotate_left
                 ·simp only [Act.put, List.setIfInBounds_toArray, List.set_cons_zero, List.set_cons_succ, i64_w, i32_w]
                  rfl
                 refine pure_ (i := 6) (N := some 44) (v := ?_) (a' := ?_) #[false, true, true, false, false, false, true, false, false, false, false, false, false, false, false] rfl rfl (any_of HT_.out (by kernel_rfl)) (fun _ _ _ h => h) (Or.inl ⟨by rfl, ?_⟩) ?_ ?_
                 rotate_left
                 ·intro w'
                  go_simp
                  with_reducible rfl
                 rotate_left
                 ·simp only [Act.put, List.setIfInBounds_toArray, List.set_cons_zero, List.set_cons_succ, i64_w, i32_w]
                  rfl
                 refine pure_ (i := 9) (N := some 47) (v := ?_) (a' := ?_) #[false, true, true, false, false, false, true, false, false, true, false, false, false, false, false] rfl rfl (any_of HT_.out (by kernel_rfl)) (fun _ _ _ h => h) (Or.inl ⟨by rfl, ?_⟩) ?_ ?_
                 rotate_left
                 ·intro w'
                  go_simp
                  with_reducible rfl
                 rotate_left
                 ·simp only [Act.put, List.setIfInBounds_toArray, List.set_cons_zero, List.set_cons_succ, i64_w, i32_w]
                  rfl
                 refine pure_ (i := 10) (N := some 48) (v := ?_) (a' := ?_) #[false, true, true, false, false, false, true, false, false, true, true, false, false, false, false] rfl rfl (any_of HT_.out (by kernel_rfl)) (fun _ _ _ h => h) (Or.inl ⟨by rfl, ?_⟩) ?_ ?_
                 rotate_left
                 ·intro w'
                  go_simp
                  with_reducible rfl
                 rotate_left
                 ·simp only [Act.put, List.setIfInBounds_toArray, List.set_cons_zero, List.set_cons_succ, i64_w, i32_w]
                  rfl
                 refine take_ (i := 3) (N := some 41) (v := ?_) (a' := ?_) #[false, true, true, true, false, false, true, false, false, true, true, false, false, false, false] rfl rfl (take_ofW HT_.out HW_.out (by kernel_rfl)) (fun _ _ _ h => h) (Or.inl ⟨by rfl, ?_⟩) hHeld ?_ ?_
                 rotate_left
                 ·rintro w' ⟨s0, s1, s2, s3, s4⟩
                  go_simp
                  with_reducible rfl
                 rotate_left
                 ·simp only [Act.put, List.setIfInBounds_toArray, List.set_cons_zero, List.set_cons_succ, i64_w, i32_w]
                  rfl
                 refine pure_ (i := 4) (N := some 42) (v := ?_) (a' := ?_) #[false, true, true, true, true, false, true, false, false, true, true, false, false, false, false] rfl rfl (any_of HT_.out (by kernel_rfl)) (fun _ _ _ h => h) (Or.inl ⟨by rfl, ?_⟩) ?_ ?_
                 rotate_left
                 ·intro w'
                  go_simp
                  with_reducible rfl
                 rotate_left
                 ·simp only [Act.put, List.setIfInBounds_toArray, List.set_cons_zero, List.set_cons_succ, i64_w, i32_w]
                  rfl
                 refine take_ (i := 11) (N := some 49) (v := ?_) (a' := ?_) #[false, true, true, true, true, false, true, false, false, true, true, true, false, false, false] rfl rfl (take_ofW HT_.out HW_.out (by kernel_rfl)) (fun _ _ _ h => h) (Or.inl ⟨by rfl, ?_⟩) hHeld ?_ ?_
                 rotate_left
                 ·rintro w' ⟨s0, s1, s2, s3, s4⟩
                  go_simp
                  with_reducible rfl
                 rotate_left
                 ·simp only [Act.put, List.setIfInBounds_toArray, List.set_cons_zero, List.set_cons_succ, i64_w, i32_w]
                  rfl
                 refine pure_ (i := 12) (N := some 50) (v := ?_) (a' := ?_) #[false, true, true, true, true, false, true, false, false, true, true, true, true, false, false] rfl rfl (any_of HT_.out (by kernel_rfl)) (fun _ _ _ h => h) (Or.inl ⟨by rfl, ?_⟩) ?_ ?_
                 rotate_left
                 ·intro w'
                  go_simp
                  with_reducible rfl
                 rotate_left
                 ·simp only [Act.put, List.setIfInBounds_toArray, List.set_cons_zero, List.set_cons_succ, i64_w, i32_w]
                  rfl
                 obtain ⟨Ao41, co41, eo41⟩ := Kd.V_slice HO_7.out
                 subst eo41
                 refine join_ (σ := Value × Value × Value) 3 #[true, true, true, true, true, true, true, true, false, true, true, true, true, false, false] (fun s_ => [(38, s_.1), (43, s_.2.1), (45, s_.2.2)]) (fun s_ w' => (w'.cell? ⟨gb385, 0, none⟩ = some (.slice A1_0 l1_0.length c1_0) ∧ w'.cell? ⟨gb385, 1, none⟩ = some (.int .u64 a1_1) ∧ w'.cell? ⟨gb385, 2, none⟩ = some (.int .u64 a1_2) ∧ w'.cell? ⟨gb385, 3, none⟩ = some (.int .i64 a1_3) ∧ w'.cell? ⟨gb385, 4, none⟩ = some (.int .i64 a1_4)) ∧ (Kd.V (Kd.slice 5 (Kd.int .u8)) 42 w' w.heap.size (fun k_ => (P2_ k_ ∨ w.heap.size ≤ k_) ∧ some k_ ≠ (s_.2.1 : Value).ownBlock ∧ some k_ ≠ (s_.2.2 : Value).ownBlock ∧ k_ ≠ gb384 ∧ k_ ≠ gb385) (.slice (some ad386) y399.length c2) y399) ∧ (Kd.N (Kd.slice 5 (Kd.int .u8)) 42 w' w.heap.size (fun k_ => (P2_ k_ ∨ w.heap.size ≤ k_) ∧ some k_ ≠ (s_.2.2 : Value).ownBlock ∧ k_ ≠ gb384 ∧ k_ ≠ gb385) s_.2.1 y404) ∧ (Kd.N (Kd.slice 5 (Kd.int .u8)) 42 w' w.heap.size (fun k_ => (P2_ k_ ∨ w.heap.size ≤ k_) ∧ some k_ ≠ (s_.2.1 : Value).ownBlock ∧ k_ ≠ gb384 ∧ k_ ≠ gb385) s_.2.2 y407) ∧ (Kd.V (Kd.slice 5 (Kd.int .u8)) 42 w' w.heap.size (fun k_ => (P2_ k_ ∨ w.heap.size ≤ k_) ∧ some k_ ≠ (s_.2.1 : Value).ownBlock ∧ some k_ ≠ (s_.2.2 : Value).ownBlock ∧ k_ ≠ gb384 ∧ k_ ≠ gb385) (.slice A37 y413.length c37) y413) ∧ (Kd.V (Kd.slice 5 (Kd.int .u8)) 42 w' w.heap.size (fun k_ => (P2_ k_ ∨ w.heap.size ≤ k_) ∧ some k_ ≠ (s_.2.1 : Value).ownBlock ∧ some k_ ≠ (s_.2.2 : Value).ownBlock ∧ k_ ≠ gb384 ∧ k_ ≠ gb385) (.slice (some ad386) l2.length c2) l2) ∧ (Kd.V (Kd.slice 5 (Kd.int .u8)) 42 w' w.heap.size (fun k_ => (P2_ k_ ∨ w.heap.size ≤ k_) ∧ some k_ ≠ (s_.2.1 : Value).ownBlock ∧ some k_ ≠ (s_.2.2 : Value).ownBlock ∧ k_ ≠ gb384 ∧ k_ ≠ gb385) (.slice A19 y387.length c19) y387) ∧ (Kd.V (Kd.int .u8) 5 w' w.heap.size (fun k_ => (P2_ k_ ∨ w.heap.size ≤ k_) ∧ some k_ ≠ (s_.2.1 : Value).ownBlock ∧ some k_ ≠ (s_.2.2 : Value).ownBlock ∧ k_ ≠ gb384 ∧ k_ ≠ gb385) (.slice Ao41 x7_1.length co41) x7_1) ∧ (w'.heap[gb384]? = some (.cells #[.int .i64 a0_0, .int .i64 a0_1, .int .i64 a0_2, .int .u64 a0_3, .int .u64 a0_4, .int .u64 a0_5] 37 (0, 0))) ∧ (w'.heap[gb385]? = some (.cells #[.slice A1_0 l1_0.length c1_0, .int .u64 a1_1, .int .u64 a1_2, .int .i64 a1_3, .int .i64 a1_4] 72 (0, 0))) ∧ (Below w.heap.size w w')) ?_ ?_
                 rotate_left
                 ·intro hCont
                  refine two_ (i := 0) (j := 7) (Ni := some 38) (Nj := some 45) #[true, true, true, true, true, false, true, false, false, true, true, true, true, false, false] #[false, true, true, true, true, false, true, true, false, true, true, true, true, false, false] rfl rfl rfl rfl (two_of HT_.out (by kernel_rfl)) (by decide) (by decide) (fun K hK => ?_) (fun K hK => ?_)
                  ·skip
                   refine Kd.N_lit_step (Kd.slice 5 (Kd.int .u8)) _ 42 ?hg (N' := 38) ?hd (xs := ([] : List (List Int))) (inner := []) (ok := (fun k_ => (P2_ k_ ∨ w.heap.size ≤ k_) ∧ k_ ≠ gb384 ∧ k_ ≠ gb385)) (okp := (fun k_ => (P2_ k_ ∨ w.heap.size ≤ k_) ∧ k_ ≠ gb384 ∧ k_ ≠ gb385)) ?hr ?hp (fun _ hk => hk) ((show ∀ k_, w35.heap.size ≤ k_ → (fun k_ => (P2_ k_ ∨ w.heap.size ≤ k_) ∧ k_ ≠ gb384 ∧ k_ ≠ gb385) k_ from fun k_ hk => ⟨(.inr (Nat.le_trans (below_size (by repeat (first | (with_reducible first | exact HB.out | apply below_alloc | apply pw_below_drewN | apply below_drew1 | refine below_set ?_ GE384.out | refine below_set ?_ GE385.out) | exact HB.out))) hk)), Kd.freshB (g := gb384) (o := .cells #[.int .i64 a0_0, .int .i64 a0_1, .int .i64 a0_2, .int .u64 a0_3, .int .u64 a0_4, .int .u64 a0_5] 37 (0, 0)) (by (with_reducible repeat (first | refine blk_drewN ?_ _ | refine blk_drew ?_ | refine blk_alloc ?_ _)); exact BK384.out) k_ hk, Kd.freshB (g := gb385) (o := .cells #[.slice A1_0 l1_0.length c1_0, .int .u64 a1_1, .int .u64 a1_2, .int .i64 a1_3, .int .i64 a1_4] 72 (0, 0)) (by (with_reducible repeat (first | refine blk_drewN ?_ _ | refine blk_drew ?_ | refine blk_alloc ?_ _)); exact BK385.out) k_ hk⟩) _ (Nat.le_refl _)) (Below.refl _ _) (Nat.le_refl _) (by simp) ?_; (case hd => rfl); (case hg => rfl); (case hr => first | (go_simp; done) | (go_simp; rfl)); (case hp => exact (Reps.none _ _))
                   intro v397 w38 ho39 hb hg_ hnew_
                   clear hg_ hnew_
                   (first | rw [← Ny396.out] at ho39 | (simp only [Int.reduceToNat] at ho39; rw [← Ny396.out] at ho39))
                   have n0_ := Aside0.mk (Kd.V_elder' (by (with_reducible repeat (first | apply Kd.V_alloc | apply Kd.V_drewN | apply Kd.V_drew)); exact HO_2.out) (Kd.N_base ho39) hb)
                   have n1_ := Aside0.mk (Kd.V_elder' (by (with_reducible repeat (first | apply Kd.V_alloc | apply Kd.V_drewN | apply Kd.V_drew)); exact HO_7.out) (Kd.N_base ho39) hb)
                   have n2_ := Aside0.mk (Kd.V_elder' (by (with_reducible repeat (first | apply Kd.V_alloc | apply Kd.V_drewN | apply Kd.V_drew)); exact HO_27.out) (Kd.N_base ho39) hb)
                   have n3_ := Aside0.mk (Kd.V_elder' (by (with_reducible repeat (first | apply Kd.V_alloc | apply Kd.V_drewN | apply Kd.V_drew)); exact HO403.out) (Kd.N_base ho39) hb)
                   have n4_ := Aside0.mk (Kd.V_elder' (by (with_reducible repeat (first | apply Kd.V_alloc | apply Kd.V_drewN | apply Kd.V_drew)); exact HO417.out) (Kd.N_base ho39) hb)
                   have n5_ := Aside0.mk (Kd.N_lower ho39 (below_size (by repeat (first | (with_reducible first | exact HB.out | apply below_alloc | apply pw_below_drewN | apply below_drew1 | refine below_set ?_ GE384.out | refine below_set ?_ GE385.out) | exact HB.out))))
                   have n6_ := Aside0.mk (blk_below (g := gb384) (o := .cells #[.int .i64 a0_0, .int .i64 a0_1, .int .i64 a0_2, .int .u64 a0_3, .int .u64 a0_4, .int .u64 a0_5] 37 (0, 0)) (by (with_reducible repeat (first | refine blk_drewN ?_ _ | refine blk_drew ?_ | refine blk_alloc ?_ _)); exact BK384.out) hb)
                   have n7_ := Aside0.mk (blk_below (g := gb385) (o := .cells #[.slice A1_0 l1_0.length c1_0, .int .u64 a1_1, .int .u64 a1_2, .int .i64 a1_3, .int .i64 a1_4] 72 (0, 0)) (by (with_reducible repeat (first | refine blk_drewN ?_ _ | refine blk_drew ?_ | refine blk_alloc ?_ _)); exact BK385.out) hb)
                   have n8_ := Aside0.mk (Kd.C_below (by repeat (first | (with_reducible exact HR386_0.out) | (with_reducible refine Kd.C_alloc ?_ _) | (with_reducible refine Kd.C_drewN ?_ _) | (with_reducible refine Kd.C_drew ?_) | exact HR386_0.out)) hb)
                   have n9_ := Aside0.mk (below_step (by repeat (first | (with_reducible first | exact HB.out | apply below_alloc | apply pw_below_drewN | apply below_drew1 | refine below_set ?_ GE384.out | refine below_set ?_ GE385.out) | exact HB.out)) hb)
                   clear HO_2
                   clear HO_7
                   clear HO_27
                   clear HO403
                   clear HO417
                   clear BK384
                   clear BK385
                   clear HR386_0
                   clear HB
                   have HO_2 := n0_
                   have HO_7 := n1_
                   have HO_27 := n2_
                   have HO403 := n3_
                   have HO417 := n4_
                   have HO398 := n5_
                   have BK384 := n6_
                   have BK385 := n7_
                   have HR386_0 := n8_
                   have HB := n9_
                   clear n0_ n1_ n2_ n3_ n4_ n5_ n6_ n7_ n8_ n9_
                   clear hb ho39
                   refine hK.out _ _ ⟨(blk_cell BK385.out 0).trans rfl, (blk_cell BK385.out 1).trans rfl, (blk_cell BK385.out 2).trans rfl, (blk_cell BK385.out 3).trans rfl, (blk_cell BK385.out 4).trans rfl⟩ (fun hHeld => ?_)
                   clear hK K
                   refine norm_ (a' := ?_) ?_ ?_
                   rotate_left
                   ·show Act.put _ (some 38) _ = _
                    simp only [Act.put, List.setIfInBounds_toArray, List.set_cons_zero, List.set_cons_succ, i64_w, i32_w]
                    rfl
                   refine two_ (i := 5) (j := 7) (Ni := some 43) (Nj := some 45) #[true, true, true, true, true, true, true, false, false, true, true, true, true, false, false] #[true, true, true, true, true, false, true, true, false, true, true, true, true, false, false] rfl rfl rfl rfl (two_of HT_.out (by kernel_rfl)) (by decide) (by decide) (fun K hK => ?_) (fun K hK => ?_)
                   ·skip
                    refine Kd.N_append_rows_step (Kd.slice 5 (Kd.int .u8)) (w0 := w) w.heap.size (by rfl) (.tmp 38) (.tmp 42) 38 42 (.slice none 0 0) 24 rfl Tryd.underlying38 info42 rfl (by decide) (by omega) v397 y396 y399 _ _ _ (fun k_ => (P2_ k_ ∨ w.heap.size ≤ k_) ∧ k_ ≠ gb384 ∧ k_ ≠ gb385) (fun k_ => ((fun k_ => (P2_ k_ ∨ w.heap.size ≤ k_) ∧ k_ ≠ gb384 ∧ k_ ≠ gb385)) k_ ∧ some k_ ≠ (v397 : Value).ownBlock) rfl rfl ?aO ?aR (fun _ hk => hk) ?aF ?aB ?aS ?aL ?_
                    (case aR => exact (by skip; exact Kd.V_F (Kd.V_mono (ok' := (fun k_ => ((fun k_ => (P2_ k_ ∨ w.heap.size ≤ k_) ∧ k_ ≠ gb384 ∧ k_ ≠ gb385)) k_ ∧ some k_ ≠ (v397 : Value).ownBlock)) (HO403.out) (fun k_ hk => ⟨⟨hk.1.1, ⟨hk.1.2.1, hk.1.2.2⟩⟩, hk.2⟩))))
                    (case aB => exact (by repeat (first | (with_reducible first | exact HB.out | apply below_alloc | apply pw_below_drewN | apply below_drew1 | refine below_set ?_ GE384.out | refine below_set ?_ GE385.out) | exact HB.out)))
                    (case aF => exact (fun k_ hk => ⟨(.inr (Nat.le_trans (below_size (by repeat (first | (with_reducible first | exact HB.out | apply below_alloc | apply pw_below_drewN | apply below_drew1 | refine below_set ?_ GE384.out | refine below_set ?_ GE385.out) | exact HB.out))) hk)), Kd.freshB (g := gb384) (o := .cells #[.int .i64 a0_0, .int .i64 a0_1, .int .i64 a0_2, .int .u64 a0_3, .int .u64 a0_4, .int .u64 a0_5] 37 (0, 0)) (by (with_reducible repeat (first | refine blk_drewN ?_ _ | refine blk_drew ?_ | refine blk_alloc ?_ _)); exact BK384.out) k_ hk, Kd.freshB (g := gb385) (o := .cells #[.slice A1_0 l1_0.length c1_0, .int .u64 a1_1, .int .u64 a1_2, .int .i64 a1_3, .int .i64 a1_4] 72 (0, 0)) (by (with_reducible repeat (first | refine blk_drewN ?_ _ | refine blk_drew ?_ | refine blk_alloc ?_ _)); exact BK385.out) k_ hk⟩))
                    (case aO => exact (by (with_reducible repeat (first | apply Kd.N_alloc | apply Kd.N_drewN | apply Kd.N_drew)); exact HO398.out))
                    (case aS => exact (below_size (by repeat (first | (with_reducible first | exact HB.out | apply below_alloc | apply pw_below_drewN | apply below_drew1 | refine below_set ?_ GE384.out | refine below_set ?_ GE385.out) | exact HB.out))))
                    (case aL => have := LMc30.out; omega)
                    intro v405 w40 ho hb hg hat
                    rw [← Ny404.out] at ho
                    have n0_ := Aside0.mk (Kd.V_afterv (ok := (fun k_ => (P2_ k_ ∨ w.heap.size ≤ k_) ∧ k_ ≠ gb384 ∧ k_ ≠ gb385)) (by (with_reducible repeat (first | apply Kd.V_alloc | apply Kd.V_drewN | apply Kd.V_drew)); exact HO_2.out) hg hat)
                    have n1_ := Aside0.mk (Kd.V_afterv (ok := (fun k_ => (P2_ k_ ∨ w.heap.size ≤ k_) ∧ k_ ≠ gb384 ∧ k_ ≠ gb385)) (by (with_reducible repeat (first | apply Kd.V_alloc | apply Kd.V_drewN | apply Kd.V_drew)); exact HO_7.out) hg hat)
                    have n2_ := Aside0.mk (Kd.V_afterv (ok := (fun k_ => (P2_ k_ ∨ w.heap.size ≤ k_) ∧ k_ ≠ gb384 ∧ k_ ≠ gb385)) (by (with_reducible repeat (first | apply Kd.V_alloc | apply Kd.V_drewN | apply Kd.V_drew)); exact HO_27.out) hg hat)
                    have n3_ := Aside0.mk (blk_grown (g := gb384) (o := .cells #[.int .i64 a0_0, .int .i64 a0_1, .int .i64 a0_2, .int .u64 a0_3, .int .u64 a0_4, .int .u64 a0_5] 37 (0, 0)) (by (with_reducible repeat (first | refine blk_drewN ?_ _ | refine blk_drew ?_ | refine blk_alloc ?_ _)); exact BK384.out) hg (Kd.N_ne HO398.out BK384.out (by decide)))
                    have n4_ := Aside0.mk (blk_grown (g := gb385) (o := .cells #[.slice A1_0 l1_0.length c1_0, .int .u64 a1_1, .int .u64 a1_2, .int .i64 a1_3, .int .i64 a1_4] 72 (0, 0)) (by (with_reducible repeat (first | refine blk_drewN ?_ _ | refine blk_drew ?_ | refine blk_alloc ?_ _)); exact BK385.out) hg (Kd.N_ne HO398.out BK385.out (by decide)))
                    have n5_ := Aside0.mk (Kd.V_afterv (ok := (fun k_ => (P2_ k_ ∨ w.heap.size ≤ k_) ∧ k_ ≠ gb384 ∧ k_ ≠ gb385)) (by (with_reducible repeat (first | apply Kd.V_alloc | apply Kd.V_drewN | apply Kd.V_drew)); exact HO403.out) hg hat)
                    have n6_ := Aside0.mk (Kd.V_afterv (ok := (fun k_ => (P2_ k_ ∨ w.heap.size ≤ k_) ∧ k_ ≠ gb384 ∧ k_ ≠ gb385)) (by (with_reducible repeat (first | apply Kd.V_alloc | apply Kd.V_drewN | apply Kd.V_drew)); exact HO417.out) hg hat)
                    have n7_ := Aside0.mk (hb)
                    have n8_ := Aside0.mk (ho)
                    clear HO_2
                    clear HO_7
                    clear HO_27
                    clear BK384
                    clear BK385
                    clear HO403
                    clear HO417
                    clear HB
                    clear HO398
                    have HO_2 := n0_
                    have HO_7 := n1_
                    have HO_27 := n2_
                    have BK384 := n3_
                    have BK385 := n4_
                    have HO403 := n5_
                    have HO417 := n6_
                    have HB := n7_
                    have HO406 := n8_
                    clear n0_ n1_ n2_ n3_ n4_ n5_ n6_ n7_ n8_
                    clear ho hb hg hat
                    obtain ⟨Ao41, co41, eo41⟩ := Kd.V_slice HO_7.out
                    (first | subst eo41 | (injection eo41 with f1_ f2_ f3_; have f4_ := f1_.symm; have f5_ := f3_.symm; clear f1_ f2_ f3_; subst f4_; subst f5_))
                    refine hK.out _ _ ⟨(blk_cell BK385.out 0).trans rfl, (blk_cell BK385.out 1).trans rfl, (blk_cell BK385.out 2).trans rfl, (blk_cell BK385.out 3).trans rfl, (blk_cell BK385.out 4).trans rfl⟩ (fun hHeld => ?_)
                    clear hK K
                    refine norm_ (a' := ?_) ?_ ?_
                    rotate_left
                    ·show Act.put _ (some 43) _ = _
                     simp only [Act.put, List.setIfInBounds_toArray, List.set_cons_zero, List.set_cons_succ, i64_w, i32_w]
                     rfl
                    refine one_ (i := 7) (N := some 45) #[true, true, true, true, true, true, true, true, false, true, true, true, true, false, false] rfl rfl (one_of HT_.out (by kernel_rfl)) (by decide) (fun K hK => ?_)
                    refine Kd.N_lit_step (Kd.slice 5 (Kd.int .u8)) _ 42 ?hg (N' := 45) ?hd (xs := ([x7_1] : List (List Int))) (inner := [.slice Ao41 x7_1.length co41]) (ok := (fun k_ => (P2_ k_ ∨ w.heap.size ≤ k_) ∧ some k_ ≠ (v405 : Value).ownBlock ∧ k_ ≠ gb384 ∧ k_ ≠ gb385)) (okp := (fun k_ => (P2_ k_ ∨ w.heap.size ≤ k_) ∧ some k_ ≠ (v405 : Value).ownBlock ∧ k_ ≠ gb384 ∧ k_ ≠ gb385)) ?hr ?hp (fun _ hk => hk) ((show ∀ k_, w40.heap.size ≤ k_ → (fun k_ => (P2_ k_ ∨ w.heap.size ≤ k_) ∧ some k_ ≠ (v405 : Value).ownBlock ∧ k_ ≠ gb384 ∧ k_ ≠ gb385) k_ from fun k_ hk => ⟨(.inr (Nat.le_trans (below_size (by repeat (first | (with_reducible first | exact HB.out | apply below_alloc | apply pw_below_drewN | apply below_drew1 | refine below_set ?_ GE384.out | refine below_set ?_ GE385.out) | exact HB.out))) hk)), Kd.fresh' (Kd.N_lt (by (with_reducible repeat (first | apply Kd.N_alloc | apply Kd.N_drewN | apply Kd.N_drew)); exact HO406.out)) k_ hk, Kd.freshB (g := gb384) (o := .cells #[.int .i64 a0_0, .int .i64 a0_1, .int .i64 a0_2, .int .u64 a0_3, .int .u64 a0_4, .int .u64 a0_5] 37 (0, 0)) (by (with_reducible repeat (first | refine blk_drewN ?_ _ | refine blk_drew ?_ | refine blk_alloc ?_ _)); exact BK384.out) k_ hk, Kd.freshB (g := gb385) (o := .cells #[.slice A1_0 l1_0.length c1_0, .int .u64 a1_1, .int .u64 a1_2, .int .i64 a1_3, .int .i64 a1_4] 72 (0, 0)) (by (with_reducible repeat (first | refine blk_drewN ?_ _ | refine blk_drew ?_ | refine blk_alloc ?_ _)); exact BK385.out) k_ hk⟩) _ (Nat.le_refl _)) (Below.refl _ _) (Nat.le_refl _) (by simp) ?_; (case hd => rfl); (case hg => rfl); (case hr => first | (go_simp; done) | (go_simp; rfl)); (case hp => exact (Reps.one (show Kd.FK (Kd.slice 5 (Kd.int .u8)) _ _ x7_1 [.slice Ao41 x7_1.length co41] from (Kd.FK_slice_mk (Kd.V_reads' (Kd.V_mono (ok' := (fun k_ => (P2_ k_ ∨ w.heap.size ≤ k_) ∧ some k_ ≠ (v405 : Value).ownBlock ∧ k_ ≠ gb384 ∧ k_ ≠ gb385)) (HO_7.out) (fun k_ hk => ⟨hk.1.1, ⟨hk.2, ⟨hk.1.2.1, hk.1.2.2⟩⟩⟩))).2.1 (Kd.V_F (Kd.V_mono (ok' := (fun k_ => (P2_ k_ ∨ w.heap.size ≤ k_) ∧ some k_ ≠ (v405 : Value).ownBlock ∧ k_ ≠ gb384 ∧ k_ ≠ gb385)) (HO_7.out) (fun k_ hk => ⟨hk.1.1, ⟨hk.2, ⟨hk.1.2.1, hk.1.2.2⟩⟩⟩))))) (Reps.none _ _)))
                    intro v408 w42 ho43 hb hg_ hnew_
                    clear hg_ hnew_
                    (first | rw [← Ny407.out] at ho43 | (simp only [Int.reduceToNat] at ho43; rw [← Ny407.out] at ho43))
                    have n0_ := Aside0.mk (Kd.V_elder' (by (with_reducible repeat (first | apply Kd.V_alloc | apply Kd.V_drewN | apply Kd.V_drew)); exact HO_2.out) (Kd.N_base ho43) hb)
                    have n1_ := Aside0.mk (Kd.V_elder' (by (with_reducible repeat (first | apply Kd.V_alloc | apply Kd.V_drewN | apply Kd.V_drew)); exact HO_7.out) (Kd.N_base ho43) hb)
                    have n2_ := Aside0.mk (Kd.V_elder' (by (with_reducible repeat (first | apply Kd.V_alloc | apply Kd.V_drewN | apply Kd.V_drew)); exact HO_27.out) (Kd.N_base ho43) hb)
                    have n3_ := Aside0.mk (Kd.V_elder' (by (with_reducible repeat (first | apply Kd.V_alloc | apply Kd.V_drewN | apply Kd.V_drew)); exact HO403.out) (Kd.N_base ho43) hb)
                    have n4_ := Aside0.mk (Kd.V_elder' (by (with_reducible repeat (first | apply Kd.V_alloc | apply Kd.V_drewN | apply Kd.V_drew)); exact HO417.out) (Kd.N_base ho43) hb)
                    have n5_ := Aside0.mk (Kd.N_elder' (by (with_reducible repeat (first | apply Kd.N_alloc | apply Kd.N_drewN | apply Kd.N_drew)); exact HO406.out) (Kd.N_base ho43) hb)
                    have n6_ := Aside0.mk (Kd.N_lower ho43 (below_size (by repeat (first | (with_reducible first | exact HB.out | apply below_alloc | apply pw_below_drewN | apply below_drew1 | refine below_set ?_ GE384.out | refine below_set ?_ GE385.out) | exact HB.out))))
                    have n7_ := Aside0.mk (blk_below (g := gb384) (o := .cells #[.int .i64 a0_0, .int .i64 a0_1, .int .i64 a0_2, .int .u64 a0_3, .int .u64 a0_4, .int .u64 a0_5] 37 (0, 0)) (by (with_reducible repeat (first | refine blk_drewN ?_ _ | refine blk_drew ?_ | refine blk_alloc ?_ _)); exact BK384.out) hb)
                    have n8_ := Aside0.mk (blk_below (g := gb385) (o := .cells #[.slice A1_0 l1_0.length c1_0, .int .u64 a1_1, .int .u64 a1_2, .int .i64 a1_3, .int .i64 a1_4] 72 (0, 0)) (by (with_reducible repeat (first | refine blk_drewN ?_ _ | refine blk_drew ?_ | refine blk_alloc ?_ _)); exact BK385.out) hb)
                    have n9_ := Aside0.mk (below_step (by repeat (first | (with_reducible first | exact HB.out | apply below_alloc | apply pw_below_drewN | apply below_drew1 | refine below_set ?_ GE384.out | refine below_set ?_ GE385.out) | exact HB.out)) hb)
                    clear HO_2
                    clear HO_7
                    clear HO_27
                    clear HO403
                    clear HO417
                    clear HO406
                    clear BK384
                    clear BK385
                    clear HB
                    have HO_2 := n0_
                    have HO_7 := n1_
                    have HO_27 := n2_
                    have HO403 := n3_
                    have HO417 := n4_
                    have HO406 := n5_
                    have HO409 := n6_
                    have BK384 := n7_
                    have BK385 := n8_
                    have HB := n9_
                    clear n0_ n1_ n2_ n3_ n4_ n5_ n6_ n7_ n8_ n9_
                    clear hb ho43
                    refine hK.out _ _ ⟨(blk_cell BK385.out 0).trans rfl, (blk_cell BK385.out 1).trans rfl, (blk_cell BK385.out 2).trans rfl, (blk_cell BK385.out 3).trans rfl, (blk_cell BK385.out 4).trans rfl⟩ (fun hHeld => ?_)
                    clear hK K
                    refine norm_ (a' := ?_) ?_ ?_
                    rotate_left
                    ·show Act.put _ (some 45) _ = _
                     simp only [Act.put, List.setIfInBounds_toArray, List.set_cons_zero, List.set_cons_succ, i64_w, i32_w]
                     rfl
                    exact norm_ (by simp only [putAll, Act.put, List.setIfInBounds_toArray, List.set_cons_zero, List.set_cons_succ]) (hCont (v397, v405, v408) _ ⟨hHeld, (by (with_reducible repeat (first | apply Kd.V_alloc | apply Kd.V_drewN | apply Kd.V_drew)); exact Kd.V_mono HO403.out (fun _ hk => ⟨hk.1.1.1, ⟨hk.1.2, ⟨hk.2, ⟨hk.1.1.2.1, hk.1.1.2.2⟩⟩⟩⟩)), (by (with_reducible repeat (first | apply Kd.N_alloc | apply Kd.N_drewN | apply Kd.N_drew)); exact Kd.N_mono HO406.out (fun _ hk => ⟨hk.1.1, ⟨hk.2, ⟨hk.1.2.1, hk.1.2.2⟩⟩⟩)), (by (with_reducible repeat (first | apply Kd.N_alloc | apply Kd.N_drewN | apply Kd.N_drew)); exact HO409.out), (by (with_reducible repeat (first | apply Kd.V_alloc | apply Kd.V_drewN | apply Kd.V_drew)); exact Kd.V_mono HO417.out (fun _ hk => ⟨hk.1.1.1, ⟨hk.1.2, ⟨hk.2, ⟨hk.1.1.2.1, hk.1.1.2.2⟩⟩⟩⟩)), (by (with_reducible repeat (first | apply Kd.V_alloc | apply Kd.V_drewN | apply Kd.V_drew)); exact Kd.V_mono HO_2.out (fun _ hk => ⟨hk.1.1.1, ⟨hk.1.2, ⟨hk.2, ⟨hk.1.1.2.1, hk.1.1.2.2⟩⟩⟩⟩)), (by (with_reducible repeat (first | apply Kd.V_alloc | apply Kd.V_drewN | apply Kd.V_drew)); exact Kd.V_mono HO_27.out (fun _ hk => ⟨hk.1.1.1, ⟨hk.1.2, ⟨hk.2, ⟨hk.1.1.2.1, hk.1.1.2.2⟩⟩⟩⟩)), (by (with_reducible repeat (first | apply Kd.V_alloc | apply Kd.V_drewN | apply Kd.V_drew)); exact Kd.V_mono HO_7.out (fun _ hk => ⟨hk.1.1.1, ⟨hk.1.2, ⟨hk.2, ⟨hk.1.1.2.1, hk.1.1.2.2⟩⟩⟩⟩)), (by (with_reducible repeat (first | refine blk_drewN ?_ _ | refine blk_drew ?_ | refine blk_alloc ?_ _)); exact BK384.out), (by (with_reducible repeat (first | refine blk_drewN ?_ _ | refine blk_drew ?_ | refine blk_alloc ?_ _)); exact BK385.out), (by repeat (first | (with_reducible first | exact HB.out | apply below_alloc | apply pw_below_drewN | apply below_drew1 | refine below_set ?_ GE384.out | refine below_set ?_ GE385.out) | exact HB.out))⟩)
                   ·skip
                    refine Kd.N_lit_step (Kd.slice 5 (Kd.int .u8)) _ 42 ?hg (N' := 45) ?hd (xs := ([x7_1] : List (List Int))) (inner := [.slice Ao41 x7_1.length co41]) (ok := (fun k_ => (P2_ k_ ∨ w.heap.size ≤ k_) ∧ some k_ ≠ (v397 : Value).ownBlock ∧ k_ ≠ gb384 ∧ k_ ≠ gb385)) (okp := (fun k_ => (P2_ k_ ∨ w.heap.size ≤ k_) ∧ some k_ ≠ (v397 : Value).ownBlock ∧ k_ ≠ gb384 ∧ k_ ≠ gb385)) ?hr ?hp (fun _ hk => hk) ((show ∀ k_, w38.heap.size ≤ k_ → (fun k_ => (P2_ k_ ∨ w.heap.size ≤ k_) ∧ some k_ ≠ (v397 : Value).ownBlock ∧ k_ ≠ gb384 ∧ k_ ≠ gb385) k_ from fun k_ hk => ⟨(.inr (Nat.le_trans (below_size (by repeat (first | (with_reducible first | exact HB.out | apply below_alloc | apply pw_below_drewN | apply below_drew1 | refine below_set ?_ GE384.out | refine below_set ?_ GE385.out) | exact HB.out))) hk)), Kd.fresh' (Kd.N_lt (by (with_reducible repeat (first | apply Kd.N_alloc | apply Kd.N_drewN | apply Kd.N_drew)); exact HO398.out)) k_ hk, Kd.freshB (g := gb384) (o := .cells #[.int .i64 a0_0, .int .i64 a0_1, .int .i64 a0_2, .int .u64 a0_3, .int .u64 a0_4, .int .u64 a0_5] 37 (0, 0)) (by (with_reducible repeat (first | refine blk_drewN ?_ _ | refine blk_drew ?_ | refine blk_alloc ?_ _)); exact BK384.out) k_ hk, Kd.freshB (g := gb385) (o := .cells #[.slice A1_0 l1_0.length c1_0, .int .u64 a1_1, .int .u64 a1_2, .int .i64 a1_3, .int .i64 a1_4] 72 (0, 0)) (by (with_reducible repeat (first | refine blk_drewN ?_ _ | refine blk_drew ?_ | refine blk_alloc ?_ _)); exact BK385.out) k_ hk⟩) _ (Nat.le_refl _)) (Below.refl _ _) (Nat.le_refl _) (by simp) ?_; (case hd => rfl); (case hg => rfl); (case hr => first | (go_simp; done) | (go_simp; rfl)); (case hp => exact (Reps.one (show Kd.FK (Kd.slice 5 (Kd.int .u8)) _ _ x7_1 [.slice Ao41 x7_1.length co41] from (Kd.FK_slice_mk (Kd.V_reads' (Kd.V_mono (ok' := (fun k_ => (P2_ k_ ∨ w.heap.size ≤ k_) ∧ some k_ ≠ (v397 : Value).ownBlock ∧ k_ ≠ gb384 ∧ k_ ≠ gb385)) (HO_7.out) (fun k_ hk => ⟨hk.1.1, ⟨hk.2, ⟨hk.1.2.1, hk.1.2.2⟩⟩⟩))).2.1 (Kd.V_F (Kd.V_mono (ok' := (fun k_ => (P2_ k_ ∨ w.heap.size ≤ k_) ∧ some k_ ≠ (v397 : Value).ownBlock ∧ k_ ≠ gb384 ∧ k_ ≠ gb385)) (HO_7.out) (fun k_ hk => ⟨hk.1.1, ⟨hk.2, ⟨hk.1.2.1, hk.1.2.2⟩⟩⟩))))) (Reps.none _ _)))
                    intro v408 w41 ho42 hb hg_ hnew_
                    clear hg_ hnew_
                    (first | rw [← Ny407.out] at ho42 | (simp only [Int.reduceToNat] at ho42; rw [← Ny407.out] at ho42))
                    have n0_ := Aside0.mk (Kd.V_elder' (by (with_reducible repeat (first | apply Kd.V_alloc | apply Kd.V_drewN | apply Kd.V_drew)); exact HO_2.out) (Kd.N_base ho42) hb)
                    have n1_ := Aside0.mk (Kd.V_elder' (by (with_reducible repeat (first | apply Kd.V_alloc | apply Kd.V_drewN | apply Kd.V_drew)); exact HO_7.out) (Kd.N_base ho42) hb)
                    have n2_ := Aside0.mk (Kd.V_elder' (by (with_reducible repeat (first | apply Kd.V_alloc | apply Kd.V_drewN | apply Kd.V_drew)); exact HO_27.out) (Kd.N_base ho42) hb)
                    have n3_ := Aside0.mk (Kd.V_elder' (by (with_reducible repeat (first | apply Kd.V_alloc | apply Kd.V_drewN | apply Kd.V_drew)); exact HO403.out) (Kd.N_base ho42) hb)
                    have n4_ := Aside0.mk (Kd.V_elder' (by (with_reducible repeat (first | apply Kd.V_alloc | apply Kd.V_drewN | apply Kd.V_drew)); exact HO417.out) (Kd.N_base ho42) hb)
                    have n5_ := Aside0.mk (Kd.N_elder' (by (with_reducible repeat (first | apply Kd.N_alloc | apply Kd.N_drewN | apply Kd.N_drew)); exact HO398.out) (Kd.N_base ho42) hb)
                    have n6_ := Aside0.mk (Kd.N_lower ho42 (below_size (by repeat (first | (with_reducible first | exact HB.out | apply below_alloc | apply pw_below_drewN | apply below_drew1 | refine below_set ?_ GE384.out | refine below_set ?_ GE385.out) | exact HB.out))))
                    have n7_ := Aside0.mk (blk_below (g := gb384) (o := .cells #[.int .i64 a0_0, .int .i64 a0_1, .int .i64 a0_2, .int .u64 a0_3, .int .u64 a0_4, .int .u64 a0_5] 37 (0, 0)) (by (with_reducible repeat (first | refine blk_drewN ?_ _ | refine blk_drew ?_ | refine blk_alloc ?_ _)); exact BK384.out) hb)
                    have n8_ := Aside0.mk (blk_below (g := gb385) (o := .cells #[.slice A1_0 l1_0.length c1_0, .int .u64 a1_1, .int .u64 a1_2, .int .i64 a1_3, .int .i64 a1_4] 72 (0, 0)) (by (with_reducible repeat (first | refine blk_drewN ?_ _ | refine blk_drew ?_ | refine blk_alloc ?_ _)); exact BK385.out) hb)
                    have n9_ := Aside0.mk (Kd.C_below (by repeat (first | (with_reducible exact HR386_0.out) | (with_reducible refine Kd.C_alloc ?_ _) | (with_reducible refine Kd.C_drewN ?_ _) | (with_reducible refine Kd.C_drew ?_) | exact HR386_0.out)) hb)
                    have n10_ := Aside0.mk (below_step (by repeat (first | (with_reducible first | exact HB.out | apply below_alloc | apply pw_below_drewN | apply below_drew1 | refine below_set ?_ GE384.out | refine below_set ?_ GE385.out) | exact HB.out)) hb)
                    clear HO_2
                    clear HO_7
                    clear HO_27
                    clear HO403
                    clear HO417
                    clear HO398
                    clear BK384
                    clear BK385
                    clear HR386_0
                    clear HB
                    have HO_2 := n0_
                    have HO_7 := n1_
                    have HO_27 := n2_
                    have HO403 := n3_
                    have HO417 := n4_
                    have HO398 := n5_
                    have HO409 := n6_
                    have BK384 := n7_
                    have BK385 := n8_
                    have HR386_0 := n9_
                    have HB := n10_
                    clear n0_ n1_ n2_ n3_ n4_ n5_ n6_ n7_ n8_ n9_ n10_
                    clear hb ho42
                    refine hK.out _ _ ⟨(blk_cell BK385.out 0).trans rfl, (blk_cell BK385.out 1).trans rfl, (blk_cell BK385.out 2).trans rfl, (blk_cell BK385.out 3).trans rfl, (blk_cell BK385.out 4).trans rfl⟩ (fun hHeld => ?_)
                    clear hK K
                    refine norm_ (a' := ?_) ?_ ?_
                    rotate_left
                    ·show Act.put _ (some 45) _ = _
                     simp only [Act.put, List.setIfInBounds_toArray, List.set_cons_zero, List.set_cons_succ, i64_w, i32_w]
                     rfl
                    refine one_ (i := 5) (N := some 43) #[true, true, true, true, true, true, true, true, false, true, true, true, true, false, false] rfl rfl (one_of HT_.out (by kernel_rfl)) (by decide) (fun K hK => ?_)
                    refine Kd.N_append_rows_step (Kd.slice 5 (Kd.int .u8)) (w0 := w) w.heap.size (by rfl) (.tmp 38) (.tmp 42) 38 42 (.slice none 0 0) 24 rfl Tryd.underlying38 info42 rfl (by decide) (by omega) v397 y396 y399 _ _ _ (fun k_ => (P2_ k_ ∨ w.heap.size ≤ k_) ∧ some k_ ≠ (v408 : Value).ownBlock ∧ k_ ≠ gb384 ∧ k_ ≠ gb385) (fun k_ => ((fun k_ => (P2_ k_ ∨ w.heap.size ≤ k_) ∧ some k_ ≠ (v408 : Value).ownBlock ∧ k_ ≠ gb384 ∧ k_ ≠ gb385)) k_ ∧ some k_ ≠ (v397 : Value).ownBlock) rfl rfl ?aO ?aR (fun _ hk => hk) ?aF ?aB ?aS ?aL ?_
                    (case aR => exact (by skip; exact Kd.V_F (Kd.V_mono (ok' := (fun k_ => ((fun k_ => (P2_ k_ ∨ w.heap.size ≤ k_) ∧ some k_ ≠ (v408 : Value).ownBlock ∧ k_ ≠ gb384 ∧ k_ ≠ gb385)) k_ ∧ some k_ ≠ (v397 : Value).ownBlock)) (HO403.out) (fun k_ hk => ⟨⟨hk.1.1.1, ⟨hk.2, ⟨hk.1.1.2.1, hk.1.1.2.2⟩⟩⟩, hk.1.2⟩))))
                    (case aB => exact (by repeat (first | (with_reducible first | exact HB.out | apply below_alloc | apply pw_below_drewN | apply below_drew1 | refine below_set ?_ GE384.out | refine below_set ?_ GE385.out) | exact HB.out)))
                    (case aF => exact (fun k_ hk => ⟨(.inr (Nat.le_trans (below_size (by repeat (first | (with_reducible first | exact HB.out | apply below_alloc | apply pw_below_drewN | apply below_drew1 | refine below_set ?_ GE384.out | refine below_set ?_ GE385.out) | exact HB.out))) hk)), Kd.fresh' (Kd.N_lt (by (with_reducible repeat (first | apply Kd.N_alloc | apply Kd.N_drewN | apply Kd.N_drew)); exact HO409.out)) k_ hk, Kd.freshB (g := gb384) (o := .cells #[.int .i64 a0_0, .int .i64 a0_1, .int .i64 a0_2, .int .u64 a0_3, .int .u64 a0_4, .int .u64 a0_5] 37 (0, 0)) (by (with_reducible repeat (first | refine blk_drewN ?_ _ | refine blk_drew ?_ | refine blk_alloc ?_ _)); exact BK384.out) k_ hk, Kd.freshB (g := gb385) (o := .cells #[.slice A1_0 l1_0.length c1_0, .int .u64 a1_1, .int .u64 a1_2, .int .i64 a1_3, .int .i64 a1_4] 72 (0, 0)) (by (with_reducible repeat (first | refine blk_drewN ?_ _ | refine blk_drew ?_ | refine blk_alloc ?_ _)); exact BK385.out) k_ hk⟩))
                    (case aO => exact (by (with_reducible repeat (first | apply Kd.N_alloc | apply Kd.N_drewN | apply Kd.N_drew)); exact Kd.N_mono HO398.out (fun _ hk => ⟨hk.1.1, ⟨hk.2, ⟨hk.1.2.1, hk.1.2.2⟩⟩⟩)))
                    (case aS => exact (below_size (by repeat (first | (with_reducible first | exact HB.out | apply below_alloc | apply pw_below_drewN | apply below_drew1 | refine below_set ?_ GE384.out | refine below_set ?_ GE385.out) | exact HB.out))))
                    (case aL => have := LMc30.out; omega)
                    intro v405 w43 ho hb hg hat
                    rw [← Ny404.out] at ho
                    have n0_ := Aside0.mk (Kd.V_afterv (ok := (fun k_ => (P2_ k_ ∨ w.heap.size ≤ k_) ∧ some k_ ≠ (v408 : Value).ownBlock ∧ k_ ≠ gb384 ∧ k_ ≠ gb385)) (by (with_reducible repeat (first | apply Kd.V_alloc | apply Kd.V_drewN | apply Kd.V_drew)); exact Kd.V_mono HO_2.out (fun _ hk => ⟨⟨hk.1.1.1, ⟨hk.2, ⟨hk.1.1.2.1, hk.1.1.2.2⟩⟩⟩, hk.1.2⟩)) hg hat)
                    have n1_ := Aside0.mk (Kd.V_afterv (ok := (fun k_ => (P2_ k_ ∨ w.heap.size ≤ k_) ∧ some k_ ≠ (v408 : Value).ownBlock ∧ k_ ≠ gb384 ∧ k_ ≠ gb385)) (by (with_reducible repeat (first | apply Kd.V_alloc | apply Kd.V_drewN | apply Kd.V_drew)); exact Kd.V_mono HO_7.out (fun _ hk => ⟨⟨hk.1.1.1, ⟨hk.2, ⟨hk.1.1.2.1, hk.1.1.2.2⟩⟩⟩, hk.1.2⟩)) hg hat)
                    have n2_ := Aside0.mk (Kd.V_afterv (ok := (fun k_ => (P2_ k_ ∨ w.heap.size ≤ k_) ∧ some k_ ≠ (v408 : Value).ownBlock ∧ k_ ≠ gb384 ∧ k_ ≠ gb385)) (by (with_reducible repeat (first | apply Kd.V_alloc | apply Kd.V_drewN | apply Kd.V_drew)); exact Kd.V_mono HO_27.out (fun _ hk => ⟨⟨hk.1.1.1, ⟨hk.2, ⟨hk.1.1.2.1, hk.1.1.2.2⟩⟩⟩, hk.1.2⟩)) hg hat)
                    have n3_ := Aside0.mk (blk_grown (g := gb384) (o := .cells #[.int .i64 a0_0, .int .i64 a0_1, .int .i64 a0_2, .int .u64 a0_3, .int .u64 a0_4, .int .u64 a0_5] 37 (0, 0)) (by (with_reducible repeat (first | refine blk_drewN ?_ _ | refine blk_drew ?_ | refine blk_alloc ?_ _)); exact BK384.out) hg (Kd.N_ne HO398.out BK384.out (by decide)))
                    have n4_ := Aside0.mk (blk_grown (g := gb385) (o := .cells #[.slice A1_0 l1_0.length c1_0, .int .u64 a1_1, .int .u64 a1_2, .int .i64 a1_3, .int .i64 a1_4] 72 (0, 0)) (by (with_reducible repeat (first | refine blk_drewN ?_ _ | refine blk_drew ?_ | refine blk_alloc ?_ _)); exact BK385.out) hg (Kd.N_ne HO398.out BK385.out (by decide)))
                    have n5_ := Aside0.mk (Kd.V_afterv (ok := (fun k_ => (P2_ k_ ∨ w.heap.size ≤ k_) ∧ some k_ ≠ (v408 : Value).ownBlock ∧ k_ ≠ gb384 ∧ k_ ≠ gb385)) (by (with_reducible repeat (first | apply Kd.V_alloc | apply Kd.V_drewN | apply Kd.V_drew)); exact Kd.V_mono HO403.out (fun _ hk => ⟨⟨hk.1.1.1, ⟨hk.2, ⟨hk.1.1.2.1, hk.1.1.2.2⟩⟩⟩, hk.1.2⟩)) hg hat)
                    have n6_ := Aside0.mk (Kd.V_afterv (ok := (fun k_ => (P2_ k_ ∨ w.heap.size ≤ k_) ∧ some k_ ≠ (v408 : Value).ownBlock ∧ k_ ≠ gb384 ∧ k_ ≠ gb385)) (by (with_reducible repeat (first | apply Kd.V_alloc | apply Kd.V_drewN | apply Kd.V_drew)); exact Kd.V_mono HO417.out (fun _ hk => ⟨⟨hk.1.1.1, ⟨hk.2, ⟨hk.1.1.2.1, hk.1.1.2.2⟩⟩⟩, hk.1.2⟩)) hg hat)
                    have n7_ := Aside0.mk (Kd.N_afterv (ok := (fun k_ => (P2_ k_ ∨ w.heap.size ≤ k_) ∧ k_ ≠ gb384 ∧ k_ ≠ gb385)) (by (with_reducible repeat (first | apply Kd.N_alloc | apply Kd.N_drewN | apply Kd.N_drew)); exact Kd.N_mono HO409.out (fun _ hk => ⟨⟨hk.1, ⟨hk.2.2.1, hk.2.2.2⟩⟩, hk.2.1⟩)) hg hat)
                    have n8_ := Aside0.mk (hb)
                    have n9_ := Aside0.mk (ho)
                    clear HO_2
                    clear HO_7
                    clear HO_27
                    clear BK384
                    clear BK385
                    clear HO403
                    clear HO417
                    clear HO409
                    clear HB
                    clear HO398
                    have HO_2 := n0_
                    have HO_7 := n1_
                    have HO_27 := n2_
                    have BK384 := n3_
                    have BK385 := n4_
                    have HO403 := n5_
                    have HO417 := n6_
                    have HO409 := n7_
                    have HB := n8_
                    have HO406 := n9_
                    clear n0_ n1_ n2_ n3_ n4_ n5_ n6_ n7_ n8_ n9_
                    clear ho hb hg hat
                    refine hK.out _ _ ⟨(blk_cell BK385.out 0).trans rfl, (blk_cell BK385.out 1).trans rfl, (blk_cell BK385.out 2).trans rfl, (blk_cell BK385.out 3).trans rfl, (blk_cell BK385.out 4).trans rfl⟩ (fun hHeld => ?_)
                    clear hK K
                    refine norm_ (a' := ?_) ?_ ?_
                    rotate_left
                    ·show Act.put _ (some 43) _ = _
                     simp only [Act.put, List.setIfInBounds_toArray, List.set_cons_zero, List.set_cons_succ, i64_w, i32_w]
                     rfl
                    exact norm_ (by simp only [putAll, Act.put, List.setIfInBounds_toArray, List.set_cons_zero, List.set_cons_succ]) (hCont (v397, v405, v408) _ ⟨hHeld, (by (with_reducible repeat (first | apply Kd.V_alloc | apply Kd.V_drewN | apply Kd.V_drew)); exact Kd.V_mono HO403.out (fun _ hk => ⟨hk.1.1, ⟨hk.2, ⟨hk.1.2.1, ⟨hk.1.2.2.1, hk.1.2.2.2⟩⟩⟩⟩)), (by (with_reducible repeat (first | apply Kd.N_alloc | apply Kd.N_drewN | apply Kd.N_drew)); exact HO406.out), (by (with_reducible repeat (first | apply Kd.N_alloc | apply Kd.N_drewN | apply Kd.N_drew)); exact Kd.N_mono HO409.out (fun _ hk => ⟨hk.1.1, ⟨hk.2, ⟨hk.1.2.1, hk.1.2.2⟩⟩⟩)), (by (with_reducible repeat (first | apply Kd.V_alloc | apply Kd.V_drewN | apply Kd.V_drew)); exact Kd.V_mono HO417.out (fun _ hk => ⟨hk.1.1, ⟨hk.2, ⟨hk.1.2.1, ⟨hk.1.2.2.1, hk.1.2.2.2⟩⟩⟩⟩)), (by (with_reducible repeat (first | apply Kd.V_alloc | apply Kd.V_drewN | apply Kd.V_drew)); exact Kd.V_mono HO_2.out (fun _ hk => ⟨hk.1.1, ⟨hk.2, ⟨hk.1.2.1, ⟨hk.1.2.2.1, hk.1.2.2.2⟩⟩⟩⟩)), (by (with_reducible repeat (first | apply Kd.V_alloc | apply Kd.V_drewN | apply Kd.V_drew)); exact Kd.V_mono HO_27.out (fun _ hk => ⟨hk.1.1, ⟨hk.2, ⟨hk.1.2.1, ⟨hk.1.2.2.1, hk.1.2.2.2⟩⟩⟩⟩)), (by (with_reducible repeat (first | apply Kd.V_alloc | apply Kd.V_drewN | apply Kd.V_drew)); exact Kd.V_mono HO_7.out (fun _ hk => ⟨hk.1.1, ⟨hk.2, ⟨hk.1.2.1, ⟨hk.1.2.2.1, hk.1.2.2.2⟩⟩⟩⟩)), (by (with_reducible repeat (first | refine blk_drewN ?_ _ | refine blk_drew ?_ | refine blk_alloc ?_ _)); exact BK384.out), (by (with_reducible repeat (first | refine blk_drewN ?_ _ | refine blk_drew ?_ | refine blk_alloc ?_ _)); exact BK385.out), (by repeat (first | (with_reducible first | exact HB.out | apply below_alloc | apply pw_below_drewN | apply below_drew1 | refine below_set ?_ GE384.out | refine below_set ?_ GE385.out) | exact HB.out))⟩)
                  ·skip
                   refine Kd.N_lit_step (Kd.slice 5 (Kd.int .u8)) _ 42 ?hg (N' := 45) ?hd (xs := ([x7_1] : List (List Int))) (inner := [.slice Ao41 x7_1.length co41]) (ok := (fun k_ => (P2_ k_ ∨ w.heap.size ≤ k_) ∧ k_ ≠ gb384 ∧ k_ ≠ gb385)) (okp := (fun k_ => (P2_ k_ ∨ w.heap.size ≤ k_) ∧ k_ ≠ gb384 ∧ k_ ≠ gb385)) ?hr ?hp (fun _ hk => hk) ((show ∀ k_, w35.heap.size ≤ k_ → (fun k_ => (P2_ k_ ∨ w.heap.size ≤ k_) ∧ k_ ≠ gb384 ∧ k_ ≠ gb385) k_ from fun k_ hk => ⟨(.inr (Nat.le_trans (below_size (by repeat (first | (with_reducible first | exact HB.out | apply below_alloc | apply pw_below_drewN | apply below_drew1 | refine below_set ?_ GE384.out | refine below_set ?_ GE385.out) | exact HB.out))) hk)), Kd.freshB (g := gb384) (o := .cells #[.int .i64 a0_0, .int .i64 a0_1, .int .i64 a0_2, .int .u64 a0_3, .int .u64 a0_4, .int .u64 a0_5] 37 (0, 0)) (by (with_reducible repeat (first | refine blk_drewN ?_ _ | refine blk_drew ?_ | refine blk_alloc ?_ _)); exact BK384.out) k_ hk, Kd.freshB (g := gb385) (o := .cells #[.slice A1_0 l1_0.length c1_0, .int .u64 a1_1, .int .u64 a1_2, .int .i64 a1_3, .int .i64 a1_4] 72 (0, 0)) (by (with_reducible repeat (first | refine blk_drewN ?_ _ | refine blk_drew ?_ | refine blk_alloc ?_ _)); exact BK385.out) k_ hk⟩) _ (Nat.le_refl _)) (Below.refl _ _) (Nat.le_refl _) (by simp) ?_; (case hd => rfl); (case hg => rfl); (case hr => first | (go_simp; done) | (go_simp; rfl)); (case hp => exact (Reps.one (show Kd.FK (Kd.slice 5 (Kd.int .u8)) _ _ x7_1 [.slice Ao41 x7_1.length co41] from (Kd.FK_slice_mk (Kd.V_reads' (Kd.V_mono (ok' := (fun k_ => (P2_ k_ ∨ w.heap.size ≤ k_) ∧ k_ ≠ gb384 ∧ k_ ≠ gb385)) (HO_7.out) (fun k_ hk => ⟨hk.1, ⟨hk.2.1, hk.2.2⟩⟩))).2.1 (Kd.V_F (Kd.V_mono (ok' := (fun k_ => (P2_ k_ ∨ w.heap.size ≤ k_) ∧ k_ ≠ gb384 ∧ k_ ≠ gb385)) (HO_7.out) (fun k_ hk => ⟨hk.1, ⟨hk.2.1, hk.2.2⟩⟩))))) (Reps.none _ _)))
                   intro v408 w39 ho40 hb hg_ hnew_
                   clear hg_ hnew_
                   (first | rw [← Ny407.out] at ho40 | (simp only [Int.reduceToNat] at ho40; rw [← Ny407.out] at ho40))
                   have n0_ := Aside0.mk (Kd.V_elder' (by (with_reducible repeat (first | apply Kd.V_alloc | apply Kd.V_drewN | apply Kd.V_drew)); exact HO_2.out) (Kd.N_base ho40) hb)
                   have n1_ := Aside0.mk (Kd.V_elder' (by (with_reducible repeat (first | apply Kd.V_alloc | apply Kd.V_drewN | apply Kd.V_drew)); exact HO_7.out) (Kd.N_base ho40) hb)
                   have n2_ := Aside0.mk (Kd.V_elder' (by (with_reducible repeat (first | apply Kd.V_alloc | apply Kd.V_drewN | apply Kd.V_drew)); exact HO_27.out) (Kd.N_base ho40) hb)
                   have n3_ := Aside0.mk (Kd.V_elder' (by (with_reducible repeat (first | apply Kd.V_alloc | apply Kd.V_drewN | apply Kd.V_drew)); exact HO403.out) (Kd.N_base ho40) hb)
                   have n4_ := Aside0.mk (Kd.V_elder' (by (with_reducible repeat (first | apply Kd.V_alloc | apply Kd.V_drewN | apply Kd.V_drew)); exact HO417.out) (Kd.N_base ho40) hb)
                   have n5_ := Aside0.mk (Kd.N_lower ho40 (below_size (by repeat (first | (with_reducible first | exact HB.out | apply below_alloc | apply pw_below_drewN | apply below_drew1 | refine below_set ?_ GE384.out | refine below_set ?_ GE385.out) | exact HB.out))))
                   have n6_ := Aside0.mk (blk_below (g := gb384) (o := .cells #[.int .i64 a0_0, .int .i64 a0_1, .int .i64 a0_2, .int .u64 a0_3, .int .u64 a0_4, .int .u64 a0_5] 37 (0, 0)) (by (with_reducible repeat (first | refine blk_drewN ?_ _ | refine blk_drew ?_ | refine blk_alloc ?_ _)); exact BK384.out) hb)
                   have n7_ := Aside0.mk (blk_below (g := gb385) (o := .cells #[.slice A1_0 l1_0.length c1_0, .int .u64 a1_1, .int .u64 a1_2, .int .i64 a1_3, .int .i64 a1_4] 72 (0, 0)) (by (with_reducible repeat (first | refine blk_drewN ?_ _ | refine blk_drew ?_ | refine blk_alloc ?_ _)); exact BK385.out) hb)
                   have n8_ := Aside0.mk (Kd.C_below (by repeat (first | (with_reducible exact HR386_0.out) | (with_reducible refine Kd.C_alloc ?_ _) | (with_reducible refine Kd.C_drewN ?_ _) | (with_reducible refine Kd.C_drew ?_) | exact HR386_0.out)) hb)
                   have n9_ := Aside0.mk (below_step (by repeat (first | (with_reducible first | exact HB.out | apply below_alloc | apply pw_below_drewN | apply below_drew1 | refine below_set ?_ GE384.out | refine below_set ?_ GE385.out) | exact HB.out)) hb)
                   clear HO_2
                   clear HO_7
                   clear HO_27
                   clear HO403
                   clear HO417
                   clear BK384
                   clear BK385
                   clear HR386_0
                   clear HB
                   have HO_2 := n0_
                   have HO_7 := n1_
                   have HO_27 := n2_
                   have HO403 := n3_
                   have HO417 := n4_
                   have HO409 := n5_
                   have BK384 := n6_
                   have BK385 := n7_
                   have HR386_0 := n8_
                   have HB := n9_
                   clear n0_ n1_ n2_ n3_ n4_ n5_ n6_ n7_ n8_ n9_
                   clear hb ho40
                   refine hK.out _ _ ⟨(blk_cell BK385.out 0).trans rfl, (blk_cell BK385.out 1).trans rfl, (blk_cell BK385.out 2).trans rfl, (blk_cell BK385.out 3).trans rfl, (blk_cell BK385.out 4).trans rfl⟩ (fun hHeld => ?_)
                   clear hK K
                   refine norm_ (a' := ?_) ?_ ?_
                   rotate_left
                   ·show Act.put _ (some 45) _ = _
                    simp only [Act.put, List.setIfInBounds_toArray, List.set_cons_zero, List.set_cons_succ, i64_w, i32_w]
                    rfl
                   refine one_ (i := 0) (N := some 38) #[true, true, true, true, true, false, true, true, false, true, true, true, true, false, false] rfl rfl (one_of HT_.out (by kernel_rfl)) (by decide) (fun K hK => ?_)
                   refine Kd.N_lit_step (Kd.slice 5 (Kd.int .u8)) _ 42 ?hg (N' := 38) ?hd (xs := ([] : List (List Int))) (inner := []) (ok := (fun k_ => (P2_ k_ ∨ w.heap.size ≤ k_) ∧ some k_ ≠ (v408 : Value).ownBlock ∧ k_ ≠ gb384 ∧ k_ ≠ gb385)) (okp := (fun k_ => (P2_ k_ ∨ w.heap.size ≤ k_) ∧ some k_ ≠ (v408 : Value).ownBlock ∧ k_ ≠ gb384 ∧ k_ ≠ gb385)) ?hr ?hp (fun _ hk => hk) ((show ∀ k_, w39.heap.size ≤ k_ → (fun k_ => (P2_ k_ ∨ w.heap.size ≤ k_) ∧ some k_ ≠ (v408 : Value).ownBlock ∧ k_ ≠ gb384 ∧ k_ ≠ gb385) k_ from fun k_ hk => ⟨(.inr (Nat.le_trans (below_size (by repeat (first | (with_reducible first | exact HB.out | apply below_alloc | apply pw_below_drewN | apply below_drew1 | refine below_set ?_ GE384.out | refine below_set ?_ GE385.out) | exact HB.out))) hk)), Kd.fresh' (Kd.N_lt (by (with_reducible repeat (first | apply Kd.N_alloc | apply Kd.N_drewN | apply Kd.N_drew)); exact HO409.out)) k_ hk, Kd.freshB (g := gb384) (o := .cells #[.int .i64 a0_0, .int .i64 a0_1, .int .i64 a0_2, .int .u64 a0_3, .int .u64 a0_4, .int .u64 a0_5] 37 (0, 0)) (by (with_reducible repeat (first | refine blk_drewN ?_ _ | refine blk_drew ?_ | refine blk_alloc ?_ _)); exact BK384.out) k_ hk, Kd.freshB (g := gb385) (o := .cells #[.slice A1_0 l1_0.length c1_0, .int .u64 a1_1, .int .u64 a1_2, .int .i64 a1_3, .int .i64 a1_4] 72 (0, 0)) (by (with_reducible repeat (first | refine blk_drewN ?_ _ | refine blk_drew ?_ | refine blk_alloc ?_ _)); exact BK385.out) k_ hk⟩) _ (Nat.le_refl _)) (Below.refl _ _) (Nat.le_refl _) (by simp) ?_; (case hd => rfl); (case hg => rfl); (case hr => first | (go_simp; done) | (go_simp; rfl)); (case hp => exact (Reps.none _ _))
                   intro v397 w41 ho42 hb hg_ hnew_
                   clear hg_ hnew_
                   (first | rw [← Ny396.out] at ho42 | (simp only [Int.reduceToNat] at ho42; rw [← Ny396.out] at ho42))
                   have n0_ := Aside0.mk (Kd.V_elder' (by (with_reducible repeat (first | apply Kd.V_alloc | apply Kd.V_drewN | apply Kd.V_drew)); exact HO_2.out) (Kd.N_base ho42) hb)
                   have n1_ := Aside0.mk (Kd.V_elder' (by (with_reducible repeat (first | apply Kd.V_alloc | apply Kd.V_drewN | apply Kd.V_drew)); exact HO_7.out) (Kd.N_base ho42) hb)
                   have n2_ := Aside0.mk (Kd.V_elder' (by (with_reducible repeat (first | apply Kd.V_alloc | apply Kd.V_drewN | apply Kd.V_drew)); exact HO_27.out) (Kd.N_base ho42) hb)
                   have n3_ := Aside0.mk (Kd.V_elder' (by (with_reducible repeat (first | apply Kd.V_alloc | apply Kd.V_drewN | apply Kd.V_drew)); exact HO403.out) (Kd.N_base ho42) hb)
                   have n4_ := Aside0.mk (Kd.V_elder' (by (with_reducible repeat (first | apply Kd.V_alloc | apply Kd.V_drewN | apply Kd.V_drew)); exact HO417.out) (Kd.N_base ho42) hb)
                   have n5_ := Aside0.mk (Kd.N_elder' (by (with_reducible repeat (first | apply Kd.N_alloc | apply Kd.N_drewN | apply Kd.N_drew)); exact HO409.out) (Kd.N_base ho42) hb)
                   have n6_ := Aside0.mk (Kd.N_lower ho42 (below_size (by repeat (first | (with_reducible first | exact HB.out | apply below_alloc | apply pw_below_drewN | apply below_drew1 | refine below_set ?_ GE384.out | refine below_set ?_ GE385.out) | exact HB.out))))
                   have n7_ := Aside0.mk (blk_below (g := gb384) (o := .cells #[.int .i64 a0_0, .int .i64 a0_1, .int .i64 a0_2, .int .u64 a0_3, .int .u64 a0_4, .int .u64 a0_5] 37 (0, 0)) (by (with_reducible repeat (first | refine blk_drewN ?_ _ | refine blk_drew ?_ | refine blk_alloc ?_ _)); exact BK384.out) hb)
                   have n8_ := Aside0.mk (blk_below (g := gb385) (o := .cells #[.slice A1_0 l1_0.length c1_0, .int .u64 a1_1, .int .u64 a1_2, .int .i64 a1_3, .int .i64 a1_4] 72 (0, 0)) (by (with_reducible repeat (first | refine blk_drewN ?_ _ | refine blk_drew ?_ | refine blk_alloc ?_ _)); exact BK385.out) hb)
                   have n9_ := Aside0.mk (Kd.C_below (by repeat (first | (with_reducible exact HR386_0.out) | (with_reducible refine Kd.C_alloc ?_ _) | (with_reducible refine Kd.C_drewN ?_ _) | (with_reducible refine Kd.C_drew ?_) | exact HR386_0.out)) hb)
                   have n10_ := Aside0.mk (below_step (by repeat (first | (with_reducible first | exact HB.out | apply below_alloc | apply pw_below_drewN | apply below_drew1 | refine below_set ?_ GE384.out | refine below_set ?_ GE385.out) | exact HB.out)) hb)
                   clear HO_2
                   clear HO_7
                   clear HO_27
                   clear HO403
                   clear HO417
                   clear HO409
                   clear BK384
                   clear BK385
                   clear HR386_0
                   clear HB
                   have HO_2 := n0_
                   have HO_7 := n1_
                   have HO_27 := n2_
                   have HO403 := n3_
                   have HO417 := n4_
                   have HO409 := n5_
                   have HO398 := n6_
                   have BK384 := n7_
                   have BK385 := n8_
                   have HR386_0 := n9_
                   have HB := n10_
                   clear n0_ n1_ n2_ n3_ n4_ n5_ n6_ n7_ n8_ n9_ n10_
                   clear hb ho42
                   refine hK.out _ _ ⟨(blk_cell BK385.out 0).trans rfl, (blk_cell BK385.out 1).trans rfl, (blk_cell BK385.out 2).trans rfl, (blk_cell BK385.out 3).trans rfl, (blk_cell BK385.out 4).trans rfl⟩ (fun hHeld => ?_)
                   clear hK K
                   refine norm_ (a' := ?_) ?_ ?_
                   rotate_left
                   ·show Act.put _ (some 38) _ = _
                    simp only [Act.put, List.setIfInBounds_toArray, List.set_cons_zero, List.set_cons_succ, i64_w, i32_w]
                    rfl
                   refine one_ (i := 5) (N := some 43) #[true, true, true, true, true, true, true, true, false, true, true, true, true, false, false] rfl rfl (one_of HT_.out (by kernel_rfl)) (by decide) (fun K hK => ?_)
                   refine Kd.N_append_rows_step (Kd.slice 5 (Kd.int .u8)) (w0 := w) w.heap.size (by rfl) (.tmp 38) (.tmp 42) 38 42 (.slice none 0 0) 24 rfl Tryd.underlying38 info42 rfl (by decide) (by omega) v397 y396 y399 _ _ _ (fun k_ => (P2_ k_ ∨ w.heap.size ≤ k_) ∧ some k_ ≠ (v408 : Value).ownBlock ∧ k_ ≠ gb384 ∧ k_ ≠ gb385) (fun k_ => ((fun k_ => (P2_ k_ ∨ w.heap.size ≤ k_) ∧ some k_ ≠ (v408 : Value).ownBlock ∧ k_ ≠ gb384 ∧ k_ ≠ gb385)) k_ ∧ some k_ ≠ (v397 : Value).ownBlock) rfl rfl ?aO ?aR (fun _ hk => hk) ?aF ?aB ?aS ?aL ?_
                   (case aR => exact (by skip; exact Kd.V_F (Kd.V_mono (ok' := (fun k_ => ((fun k_ => (P2_ k_ ∨ w.heap.size ≤ k_) ∧ some k_ ≠ (v408 : Value).ownBlock ∧ k_ ≠ gb384 ∧ k_ ≠ gb385)) k_ ∧ some k_ ≠ (v397 : Value).ownBlock)) (HO403.out) (fun k_ hk => ⟨⟨hk.1.1.1, ⟨hk.1.2, ⟨hk.1.1.2.1, hk.1.1.2.2⟩⟩⟩, hk.2⟩))))
                   (case aB => exact (by repeat (first | (with_reducible first | exact HB.out | apply below_alloc | apply pw_below_drewN | apply below_drew1 | refine below_set ?_ GE384.out | refine below_set ?_ GE385.out) | exact HB.out)))
                   (case aF => exact (fun k_ hk => ⟨(.inr (Nat.le_trans (below_size (by repeat (first | (with_reducible first | exact HB.out | apply below_alloc | apply pw_below_drewN | apply below_drew1 | refine below_set ?_ GE384.out | refine below_set ?_ GE385.out) | exact HB.out))) hk)), Kd.fresh' (Kd.N_lt (by (with_reducible repeat (first | apply Kd.N_alloc | apply Kd.N_drewN | apply Kd.N_drew)); exact HO409.out)) k_ hk, Kd.freshB (g := gb384) (o := .cells #[.int .i64 a0_0, .int .i64 a0_1, .int .i64 a0_2, .int .u64 a0_3, .int .u64 a0_4, .int .u64 a0_5] 37 (0, 0)) (by (with_reducible repeat (first | refine blk_drewN ?_ _ | refine blk_drew ?_ | refine blk_alloc ?_ _)); exact BK384.out) k_ hk, Kd.freshB (g := gb385) (o := .cells #[.slice A1_0 l1_0.length c1_0, .int .u64 a1_1, .int .u64 a1_2, .int .i64 a1_3, .int .i64 a1_4] 72 (0, 0)) (by (with_reducible repeat (first | refine blk_drewN ?_ _ | refine blk_drew ?_ | refine blk_alloc ?_ _)); exact BK385.out) k_ hk⟩))
                   (case aO => exact (by (with_reducible repeat (first | apply Kd.N_alloc | apply Kd.N_drewN | apply Kd.N_drew)); exact HO398.out))
                   (case aS => exact (below_size (by repeat (first | (with_reducible first | exact HB.out | apply below_alloc | apply pw_below_drewN | apply below_drew1 | refine below_set ?_ GE384.out | refine below_set ?_ GE385.out) | exact HB.out))))
                   (case aL => have := LMc30.out; omega)
                   intro v405 w43 ho hb hg hat
                   rw [← Ny404.out] at ho
                   have n0_ := Aside0.mk (Kd.V_afterv (ok := (fun k_ => (P2_ k_ ∨ w.heap.size ≤ k_) ∧ some k_ ≠ (v408 : Value).ownBlock ∧ k_ ≠ gb384 ∧ k_ ≠ gb385)) (by (with_reducible repeat (first | apply Kd.V_alloc | apply Kd.V_drewN | apply Kd.V_drew)); exact Kd.V_mono HO_2.out (fun _ hk => ⟨⟨hk.1.1.1, ⟨hk.1.2, ⟨hk.1.1.2.1, hk.1.1.2.2⟩⟩⟩, hk.2⟩)) hg hat)
                   have n1_ := Aside0.mk (Kd.V_afterv (ok := (fun k_ => (P2_ k_ ∨ w.heap.size ≤ k_) ∧ some k_ ≠ (v408 : Value).ownBlock ∧ k_ ≠ gb384 ∧ k_ ≠ gb385)) (by (with_reducible repeat (first | apply Kd.V_alloc | apply Kd.V_drewN | apply Kd.V_drew)); exact Kd.V_mono HO_7.out (fun _ hk => ⟨⟨hk.1.1.1, ⟨hk.1.2, ⟨hk.1.1.2.1, hk.1.1.2.2⟩⟩⟩, hk.2⟩)) hg hat)
                   have n2_ := Aside0.mk (Kd.V_afterv (ok := (fun k_ => (P2_ k_ ∨ w.heap.size ≤ k_) ∧ some k_ ≠ (v408 : Value).ownBlock ∧ k_ ≠ gb384 ∧ k_ ≠ gb385)) (by (with_reducible repeat (first | apply Kd.V_alloc | apply Kd.V_drewN | apply Kd.V_drew)); exact Kd.V_mono HO_27.out (fun _ hk => ⟨⟨hk.1.1.1, ⟨hk.1.2, ⟨hk.1.1.2.1, hk.1.1.2.2⟩⟩⟩, hk.2⟩)) hg hat)
                   have n3_ := Aside0.mk (blk_grown (g := gb384) (o := .cells #[.int .i64 a0_0, .int .i64 a0_1, .int .i64 a0_2, .int .u64 a0_3, .int .u64 a0_4, .int .u64 a0_5] 37 (0, 0)) (by (with_reducible repeat (first | refine blk_drewN ?_ _ | refine blk_drew ?_ | refine blk_alloc ?_ _)); exact BK384.out) hg (Kd.N_ne HO398.out BK384.out (by decide)))
                   have n4_ := Aside0.mk (blk_grown (g := gb385) (o := .cells #[.slice A1_0 l1_0.length c1_0, .int .u64 a1_1, .int .u64 a1_2, .int .i64 a1_3, .int .i64 a1_4] 72 (0, 0)) (by (with_reducible repeat (first | refine blk_drewN ?_ _ | refine blk_drew ?_ | refine blk_alloc ?_ _)); exact BK385.out) hg (Kd.N_ne HO398.out BK385.out (by decide)))
                   have n5_ := Aside0.mk (Kd.V_afterv (ok := (fun k_ => (P2_ k_ ∨ w.heap.size ≤ k_) ∧ some k_ ≠ (v408 : Value).ownBlock ∧ k_ ≠ gb384 ∧ k_ ≠ gb385)) (by (with_reducible repeat (first | apply Kd.V_alloc | apply Kd.V_drewN | apply Kd.V_drew)); exact Kd.V_mono HO403.out (fun _ hk => ⟨⟨hk.1.1.1, ⟨hk.1.2, ⟨hk.1.1.2.1, hk.1.1.2.2⟩⟩⟩, hk.2⟩)) hg hat)
                   have n6_ := Aside0.mk (Kd.V_afterv (ok := (fun k_ => (P2_ k_ ∨ w.heap.size ≤ k_) ∧ some k_ ≠ (v408 : Value).ownBlock ∧ k_ ≠ gb384 ∧ k_ ≠ gb385)) (by (with_reducible repeat (first | apply Kd.V_alloc | apply Kd.V_drewN | apply Kd.V_drew)); exact Kd.V_mono HO417.out (fun _ hk => ⟨⟨hk.1.1.1, ⟨hk.1.2, ⟨hk.1.1.2.1, hk.1.1.2.2⟩⟩⟩, hk.2⟩)) hg hat)
                   have n7_ := Aside0.mk (Kd.N_afterv (ok := (fun k_ => (P2_ k_ ∨ w.heap.size ≤ k_) ∧ k_ ≠ gb384 ∧ k_ ≠ gb385)) (by (with_reducible repeat (first | apply Kd.N_alloc | apply Kd.N_drewN | apply Kd.N_drew)); exact HO409.out) hg hat)
                   have n8_ := Aside0.mk (hb)
                   have n9_ := Aside0.mk (ho)
                   clear HO_2
                   clear HO_7
                   clear HO_27
                   clear BK384
                   clear BK385
                   clear HO403
                   clear HO417
                   clear HO409
                   clear HB
                   clear HO398
                   have HO_2 := n0_
                   have HO_7 := n1_
                   have HO_27 := n2_
                   have BK384 := n3_
                   have BK385 := n4_
                   have HO403 := n5_
                   have HO417 := n6_
                   have HO409 := n7_
                   have HB := n8_
                   have HO406 := n9_
                   clear n0_ n1_ n2_ n3_ n4_ n5_ n6_ n7_ n8_ n9_
                   clear ho hb hg hat
                   refine hK.out _ _ ⟨(blk_cell BK385.out 0).trans rfl, (blk_cell BK385.out 1).trans rfl, (blk_cell BK385.out 2).trans rfl, (blk_cell BK385.out 3).trans rfl, (blk_cell BK385.out 4).trans rfl⟩ (fun hHeld => ?_)
                   clear hK K
                   refine norm_ (a' := ?_) ?_ ?_
                   rotate_left
                   ·show Act.put _ (some 43) _ = _
                    simp only [Act.put, List.setIfInBounds_toArray, List.set_cons_zero, List.set_cons_succ, i64_w, i32_w]
                    rfl
                   exact norm_ (by simp only [putAll, Act.put, List.setIfInBounds_toArray, List.set_cons_zero, List.set_cons_succ]) (hCont (v397, v405, v408) _ ⟨hHeld, (by (with_reducible repeat (first | apply Kd.V_alloc | apply Kd.V_drewN | apply Kd.V_drew)); exact Kd.V_mono HO403.out (fun _ hk => ⟨hk.1.1, ⟨hk.2, ⟨hk.1.2.1, ⟨hk.1.2.2.1, hk.1.2.2.2⟩⟩⟩⟩)), (by (with_reducible repeat (first | apply Kd.N_alloc | apply Kd.N_drewN | apply Kd.N_drew)); exact HO406.out), (by (with_reducible repeat (first | apply Kd.N_alloc | apply Kd.N_drewN | apply Kd.N_drew)); exact Kd.N_mono HO409.out (fun _ hk => ⟨hk.1.1, ⟨hk.2, ⟨hk.1.2.1, hk.1.2.2⟩⟩⟩)), (by (with_reducible repeat (first | apply Kd.V_alloc | apply Kd.V_drewN | apply Kd.V_drew)); exact Kd.V_mono HO417.out (fun _ hk => ⟨hk.1.1, ⟨hk.2, ⟨hk.1.2.1, ⟨hk.1.2.2.1, hk.1.2.2.2⟩⟩⟩⟩)), (by (with_reducible repeat (first | apply Kd.V_alloc | apply Kd.V_drewN | apply Kd.V_drew)); exact Kd.V_mono HO_2.out (fun _ hk => ⟨hk.1.1, ⟨hk.2, ⟨hk.1.2.1, ⟨hk.1.2.2.1, hk.1.2.2.2⟩⟩⟩⟩)), (by (with_reducible repeat (first | apply Kd.V_alloc | apply Kd.V_drewN | apply Kd.V_drew)); exact Kd.V_mono HO_27.out (fun _ hk => ⟨hk.1.1, ⟨hk.2, ⟨hk.1.2.1, ⟨hk.1.2.2.1, hk.1.2.2.2⟩⟩⟩⟩)), (by (with_reducible repeat (first | apply Kd.V_alloc | apply Kd.V_drewN | apply Kd.V_drew)); exact Kd.V_mono HO_7.out (fun _ hk => ⟨hk.1.1, ⟨hk.2, ⟨hk.1.2.1, ⟨hk.1.2.2.1, hk.1.2.2.2⟩⟩⟩⟩)), (by (with_reducible repeat (first | refine blk_drewN ?_ _ | refine blk_drew ?_ | refine blk_alloc ?_ _)); exact BK384.out), (by (with_reducible repeat (first | refine blk_drewN ?_ _ | refine blk_drew ?_ | refine blk_alloc ?_ _)); exact BK385.out), (by repeat (first | (with_reducible first | exact HB.out | apply below_alloc | apply pw_below_drewN | apply below_drew1 | refine below_set ?_ GE384.out | refine below_set ?_ GE385.out) | exact HB.out))⟩)
                 rintro ⟨v397, v405, v408⟩ w44 ⟨hS_, h0_, h1_, h2_, h3_, h4_, h5_, h6_, h7_, h8_, h9_⟩
                 have n0_ : Aside0 (Kd.V (Kd.slice 5 (Kd.int .u8)) 42 w44 w.heap.size (fun k_ => (P2_ k_ ∨ w.heap.size ≤ k_) ∧ some k_ ≠ (v405 : Value).ownBlock ∧ some k_ ≠ (v408 : Value).ownBlock ∧ k_ ≠ gb384 ∧ k_ ≠ gb385) (.slice (some ad386) y399.length c2) y399) := ⟨h0_⟩
                 have n1_ : Aside0 (Kd.N (Kd.slice 5 (Kd.int .u8)) 42 w44 w.heap.size (fun k_ => (P2_ k_ ∨ w.heap.size ≤ k_) ∧ some k_ ≠ (v408 : Value).ownBlock ∧ k_ ≠ gb384 ∧ k_ ≠ gb385) v405 y404) := ⟨h1_⟩
                 have n2_ : Aside0 (Kd.N (Kd.slice 5 (Kd.int .u8)) 42 w44 w.heap.size (fun k_ => (P2_ k_ ∨ w.heap.size ≤ k_) ∧ some k_ ≠ (v405 : Value).ownBlock ∧ k_ ≠ gb384 ∧ k_ ≠ gb385) v408 y407) := ⟨h2_⟩
                 have n3_ : Aside0 (Kd.V (Kd.slice 5 (Kd.int .u8)) 42 w44 w.heap.size (fun k_ => (P2_ k_ ∨ w.heap.size ≤ k_) ∧ some k_ ≠ (v405 : Value).ownBlock ∧ some k_ ≠ (v408 : Value).ownBlock ∧ k_ ≠ gb384 ∧ k_ ≠ gb385) (.slice A37 y413.length c37) y413) := ⟨h3_⟩
                 have n4_ : Aside0 (Kd.V (Kd.slice 5 (Kd.int .u8)) 42 w44 w.heap.size (fun k_ => (P2_ k_ ∨ w.heap.size ≤ k_) ∧ some k_ ≠ (v405 : Value).ownBlock ∧ some k_ ≠ (v408 : Value).ownBlock ∧ k_ ≠ gb384 ∧ k_ ≠ gb385) (.slice (some ad386) l2.length c2) l2) := ⟨h4_⟩
                 have n5_ : Aside0 (Kd.V (Kd.slice 5 (Kd.int .u8)) 42 w44 w.heap.size (fun k_ => (P2_ k_ ∨ w.heap.size ≤ k_) ∧ some k_ ≠ (v405 : Value).ownBlock ∧ some k_ ≠ (v408 : Value).ownBlock ∧ k_ ≠ gb384 ∧ k_ ≠ gb385) (.slice A19 y387.length c19) y387) := ⟨h5_⟩
                 have n6_ : Aside0 (Kd.V (Kd.int .u8) 5 w44 w.heap.size (fun k_ => (P2_ k_ ∨ w.heap.size ≤ k_) ∧ some k_ ≠ (v405 : Value).ownBlock ∧ some k_ ≠ (v408 : Value).ownBlock ∧ k_ ≠ gb384 ∧ k_ ≠ gb385) (.slice Ao41 x7_1.length co41) x7_1) := ⟨h6_⟩
                 have n7_ : Aside0 (w44.heap[gb384]? = some (.cells #[.int .i64 a0_0, .int .i64 a0_1, .int .i64 a0_2, .int .u64 a0_3, .int .u64 a0_4, .int .u64 a0_5] 37 (0, 0))) := ⟨h7_⟩
                 have n8_ : Aside0 (w44.heap[gb385]? = some (.cells #[.slice A1_0 l1_0.length c1_0, .int .u64 a1_1, .int .u64 a1_2, .int .i64 a1_3, .int .i64 a1_4] 72 (0, 0))) := ⟨h8_⟩
                 have n9_ : Aside0 (Below w.heap.size w w44) := ⟨h9_⟩
                 clear HO_2
                 clear HO_7
                 clear HO_27
                 clear BK384
                 clear BK385
                 clear HR386_0
                 clear HB
                 clear h0_ h1_ h2_ h3_ h4_ h5_ h6_ h7_ h8_ h9_
                 have HO403 := n0_
                 have HO406 := n1_
                 have HO409 := n2_
                 have HO417 := n3_
                 have HO_2 := n4_
                 have HO_27 := n5_
                 have HO_7 := n6_
                 have BK384 := n7_
                 have BK385 := n8_
                 have HB := n9_
                 clear n0_ n1_ n2_ n3_ n4_ n5_ n6_ n7_ n8_ n9_
                 have hHeld : w44.cell? ⟨gb385, 0, none⟩ = some (.slice A1_0 l1_0.length c1_0) ∧ w44.cell? ⟨gb385, 1, none⟩ = some (.int .u64 a1_1) ∧ w44.cell? ⟨gb385, 2, none⟩ = some (.int .u64 a1_2) ∧ w44.cell? ⟨gb385, 3, none⟩ = some (.int .i64 a1_3) ∧ w44.cell? ⟨gb385, 4, none⟩ = some (.int .i64 a1_4) := hS_
                 obtain ⟨Ao46, co46, eo46⟩ := Kd.N_slice HO409.out
                 (first | subst eo46 | (injection eo46 with f1_ f2_ f3_; have f4_ := f1_.symm; have f5_ := f3_.symm; clear f1_ f2_ f3_; subst f4_; subst f5_))
                 refine norm_ (a' := ?_) ?_ ?_
                 rotate_left
                 ·simp only [putAll, Act.put, List.setIfInBounds_toArray, List.set_cons_zero, List.set_cons_succ]
                  rfl
                 refine one_ (i := 8) (N := some 46) #[true, true, true, true, true, true, true, true, true, true, true, true, true, false, false] rfl rfl (one_of HT_.out (by kernel_rfl)) (by decide) (fun K hK => ?_)
                 refine Kd.N_append_rows_step (Kd.slice 5 (Kd.int .u8)) (w0 := w) w.heap.size (by rfl) (.tmp 43) (.tmp 45) 38 42 (.slice none 0 0) 24 rfl Tryd.underlying38 info42 rfl (by decide) (by omega) v405 y404 y407 _ _ _ (fun k_ => (P2_ k_ ∨ w.heap.size ≤ k_) ∧ k_ ≠ gb384 ∧ k_ ≠ gb385) (fun k_ => ((fun k_ => (P2_ k_ ∨ w.heap.size ≤ k_) ∧ k_ ≠ gb384 ∧ k_ ≠ gb385)) k_ ∧ some k_ ≠ (v405 : Value).ownBlock) rfl rfl ?aO ?aR (fun _ hk => hk) ?aF ?aB ?aS ?aL ?_
                 (case aR => exact (by skip; exact Kd.N_F (Kd.N_mono (ok' := (fun k_ => ((fun k_ => (P2_ k_ ∨ w.heap.size ≤ k_) ∧ k_ ≠ gb384 ∧ k_ ≠ gb385)) k_ ∧ some k_ ≠ (v405 : Value).ownBlock)) (HO409.out) (fun k_ hk => ⟨⟨hk.1, ⟨hk.2.2.1, hk.2.2.2⟩⟩, hk.2.1⟩))))
                 (case aB => exact (by repeat (first | (with_reducible first | exact HB.out | apply below_alloc | apply pw_below_drewN | apply below_drew1 | refine below_set ?_ GE384.out | refine below_set ?_ GE385.out) | exact HB.out)))
                 (case aF => exact (fun k_ hk => ⟨(.inr (Nat.le_trans (below_size (by repeat (first | (with_reducible first | exact HB.out | apply below_alloc | apply pw_below_drewN | apply below_drew1 | refine below_set ?_ GE384.out | refine below_set ?_ GE385.out) | exact HB.out))) hk)), Kd.freshB (g := gb384) (o := .cells #[.int .i64 a0_0, .int .i64 a0_1, .int .i64 a0_2, .int .u64 a0_3, .int .u64 a0_4, .int .u64 a0_5] 37 (0, 0)) (by (with_reducible repeat (first | refine blk_drewN ?_ _ | refine blk_drew ?_ | refine blk_alloc ?_ _)); exact BK384.out) k_ hk, Kd.freshB (g := gb385) (o := .cells #[.slice A1_0 l1_0.length c1_0, .int .u64 a1_1, .int .u64 a1_2, .int .i64 a1_3, .int .i64 a1_4] 72 (0, 0)) (by (with_reducible repeat (first | refine blk_drewN ?_ _ | refine blk_drew ?_ | refine blk_alloc ?_ _)); exact BK385.out) k_ hk⟩))
                 (case aO => exact (by (with_reducible repeat (first | apply Kd.N_alloc | apply Kd.N_drewN | apply Kd.N_drew)); exact Kd.N_mono HO406.out (fun _ hk => ⟨hk.1, ⟨hk.2.2.1, hk.2.2.2⟩⟩)))
                 (case aS => exact (below_size (by repeat (first | (with_reducible first | exact HB.out | apply below_alloc | apply pw_below_drewN | apply below_drew1 | refine below_set ?_ GE384.out | refine below_set ?_ GE385.out) | exact HB.out))))
                 (case aL => have := LMc31.out; omega)
                 intro v411 w45 ho hb hg hat
                 rw [← Ny410.out] at ho
                 have n0_ := Aside0.mk (Kd.V_afterv (ok := (fun k_ => (P2_ k_ ∨ w.heap.size ≤ k_) ∧ some k_ ≠ (.slice Ao46 y407.length co46 : Value).ownBlock ∧ k_ ≠ gb384 ∧ k_ ≠ gb385)) (by (with_reducible repeat (first | apply Kd.V_alloc | apply Kd.V_drewN | apply Kd.V_drew)); exact Kd.V_mono HO_2.out (fun _ hk => ⟨⟨hk.1, ⟨hk.2.2.1, ⟨hk.2.2.2.1, hk.2.2.2.2⟩⟩⟩, hk.2.1⟩)) hg hat)
                 have n1_ := Aside0.mk (Kd.V_afterv (ok := (fun k_ => (P2_ k_ ∨ w.heap.size ≤ k_) ∧ some k_ ≠ (.slice Ao46 y407.length co46 : Value).ownBlock ∧ k_ ≠ gb384 ∧ k_ ≠ gb385)) (by (with_reducible repeat (first | apply Kd.V_alloc | apply Kd.V_drewN | apply Kd.V_drew)); exact Kd.V_mono HO_7.out (fun _ hk => ⟨⟨hk.1, ⟨hk.2.2.1, ⟨hk.2.2.2.1, hk.2.2.2.2⟩⟩⟩, hk.2.1⟩)) hg hat)
                 have n2_ := Aside0.mk (Kd.V_afterv (ok := (fun k_ => (P2_ k_ ∨ w.heap.size ≤ k_) ∧ some k_ ≠ (.slice Ao46 y407.length co46 : Value).ownBlock ∧ k_ ≠ gb384 ∧ k_ ≠ gb385)) (by (with_reducible repeat (first | apply Kd.V_alloc | apply Kd.V_drewN | apply Kd.V_drew)); exact Kd.V_mono HO_27.out (fun _ hk => ⟨⟨hk.1, ⟨hk.2.2.1, ⟨hk.2.2.2.1, hk.2.2.2.2⟩⟩⟩, hk.2.1⟩)) hg hat)
                 have n3_ := Aside0.mk (blk_grown (g := gb384) (o := .cells #[.int .i64 a0_0, .int .i64 a0_1, .int .i64 a0_2, .int .u64 a0_3, .int .u64 a0_4, .int .u64 a0_5] 37 (0, 0)) (by (with_reducible repeat (first | refine blk_drewN ?_ _ | refine blk_drew ?_ | refine blk_alloc ?_ _)); exact BK384.out) hg (Kd.N_ne HO406.out BK384.out (by decide)))
                 have n4_ := Aside0.mk (blk_grown (g := gb385) (o := .cells #[.slice A1_0 l1_0.length c1_0, .int .u64 a1_1, .int .u64 a1_2, .int .i64 a1_3, .int .i64 a1_4] 72 (0, 0)) (by (with_reducible repeat (first | refine blk_drewN ?_ _ | refine blk_drew ?_ | refine blk_alloc ?_ _)); exact BK385.out) hg (Kd.N_ne HO406.out BK385.out (by decide)))
                 have n5_ := Aside0.mk (Kd.V_afterv (ok := (fun k_ => (P2_ k_ ∨ w.heap.size ≤ k_) ∧ some k_ ≠ (.slice Ao46 y407.length co46 : Value).ownBlock ∧ k_ ≠ gb384 ∧ k_ ≠ gb385)) (by (with_reducible repeat (first | apply Kd.V_alloc | apply Kd.V_drewN | apply Kd.V_drew)); exact Kd.V_mono HO403.out (fun _ hk => ⟨⟨hk.1, ⟨hk.2.2.1, ⟨hk.2.2.2.1, hk.2.2.2.2⟩⟩⟩, hk.2.1⟩)) hg hat)
                 have n6_ := Aside0.mk (Kd.V_afterv (ok := (fun k_ => (P2_ k_ ∨ w.heap.size ≤ k_) ∧ some k_ ≠ (.slice Ao46 y407.length co46 : Value).ownBlock ∧ k_ ≠ gb384 ∧ k_ ≠ gb385)) (by (with_reducible repeat (first | apply Kd.V_alloc | apply Kd.V_drewN | apply Kd.V_drew)); exact Kd.V_mono HO417.out (fun _ hk => ⟨⟨hk.1, ⟨hk.2.2.1, ⟨hk.2.2.2.1, hk.2.2.2.2⟩⟩⟩, hk.2.1⟩)) hg hat)
                 have n7_ := Aside0.mk (Kd.N_afterv (ok := (fun k_ => (P2_ k_ ∨ w.heap.size ≤ k_) ∧ k_ ≠ gb384 ∧ k_ ≠ gb385)) (by (with_reducible repeat (first | apply Kd.N_alloc | apply Kd.N_drewN | apply Kd.N_drew)); exact Kd.N_mono HO409.out (fun _ hk => ⟨⟨hk.1, ⟨hk.2.2.1, hk.2.2.2⟩⟩, hk.2.1⟩)) hg hat)
                 have n8_ := Aside0.mk (hb)
                 have n9_ := Aside0.mk (ho)
                 clear HO_2
                 clear HO_7
                 clear HO_27
                 clear BK384
                 clear BK385
                 clear HO403
                 clear HO417
                 clear HO409
                 clear HB
                 clear HO406
                 have HO_2 := n0_
                 have HO_7 := n1_
                 have HO_27 := n2_
                 have BK384 := n3_
                 have BK385 := n4_
                 have HO403 := n5_
                 have HO417 := n6_
                 have HO409 := n7_
                 have HB := n8_
                 have HO412 := n9_
                 clear n0_ n1_ n2_ n3_ n4_ n5_ n6_ n7_ n8_ n9_
                 clear ho hb hg hat
                 refine hK.out _ _ ⟨(blk_cell BK385.out 0).trans rfl, (blk_cell BK385.out 1).trans rfl, (blk_cell BK385.out 2).trans rfl, (blk_cell BK385.out 3).trans rfl, (blk_cell BK385.out 4).trans rfl⟩ (fun hHeld => ?_)
                 clear hK K
                 refine norm_ (a' := ?_) ?_ ?_
                 rotate_left
                 ·show Act.put _ (some 46) _ = _
                  simp only [Act.put, List.setIfInBounds_toArray, List.set_cons_zero, List.set_cons_succ, i64_w, i32_w]
                  rfl
                 refine one_ (i := 13) (N := some 51) #[true, true, true, true, true, true, true, true, true, true, true, true, true, true, false] rfl rfl (one_of HT_.out (by kernel_rfl)) (by decide) (fun K hK => ?_)
                 refine Kd.N_append_rows_step (Kd.slice 5 (Kd.int .u8)) (w0 := w) w.heap.size (by rfl) (.tmp 46) (.tmp 50) 38 42 (.slice none 0 0) 24 rfl Tryd.underlying38 info42 rfl (by decide) (by omega) v411 y410 y413 _ _ _ (fun k_ => (P2_ k_ ∨ w.heap.size ≤ k_) ∧ k_ ≠ gb384 ∧ k_ ≠ gb385) (fun k_ => ((fun k_ => (P2_ k_ ∨ w.heap.size ≤ k_) ∧ k_ ≠ gb384 ∧ k_ ≠ gb385)) k_ ∧ some k_ ≠ (v411 : Value).ownBlock) rfl rfl ?aO ?aR (fun _ hk => hk) ?aF ?aB ?aS ?aL ?_
                 (case aR => exact (by skip; exact Kd.V_F (Kd.V_mono (ok' := (fun k_ => ((fun k_ => (P2_ k_ ∨ w.heap.size ≤ k_) ∧ k_ ≠ gb384 ∧ k_ ≠ gb385)) k_ ∧ some k_ ≠ (v411 : Value).ownBlock)) (HO417.out) (fun k_ hk => ⟨⟨hk.1.1, ⟨hk.1.2.2.1, hk.1.2.2.2⟩⟩, hk.2⟩))))
                 (case aB => exact (by repeat (first | (with_reducible first | exact HB.out | apply below_alloc | apply pw_below_drewN | apply below_drew1 | refine below_set ?_ GE384.out | refine below_set ?_ GE385.out) | exact HB.out)))
                 (case aF => exact (fun k_ hk => ⟨(.inr (Nat.le_trans (below_size (by repeat (first | (with_reducible first | exact HB.out | apply below_alloc | apply pw_below_drewN | apply below_drew1 | refine below_set ?_ GE384.out | refine below_set ?_ GE385.out) | exact HB.out))) hk)), Kd.freshB (g := gb384) (o := .cells #[.int .i64 a0_0, .int .i64 a0_1, .int .i64 a0_2, .int .u64 a0_3, .int .u64 a0_4, .int .u64 a0_5] 37 (0, 0)) (by (with_reducible repeat (first | refine blk_drewN ?_ _ | refine blk_drew ?_ | refine blk_alloc ?_ _)); exact BK384.out) k_ hk, Kd.freshB (g := gb385) (o := .cells #[.slice A1_0 l1_0.length c1_0, .int .u64 a1_1, .int .u64 a1_2, .int .i64 a1_3, .int .i64 a1_4] 72 (0, 0)) (by (with_reducible repeat (first | refine blk_drewN ?_ _ | refine blk_drew ?_ | refine blk_alloc ?_ _)); exact BK385.out) k_ hk⟩))
                 (case aO => exact (by (with_reducible repeat (first | apply Kd.N_alloc | apply Kd.N_drewN | apply Kd.N_drew)); exact HO412.out))
                 (case aS => exact (below_size (by repeat (first | (with_reducible first | exact HB.out | apply below_alloc | apply pw_below_drewN | apply below_drew1 | refine below_set ?_ GE384.out | refine below_set ?_ GE385.out) | exact HB.out))))
                 (case aL => have := LMc34.out; omega)
                 intro v419 w47 ho hb hg hat
                 rw [← Ny418.out] at ho
                 have n0_ := Aside0.mk (Kd.V_afterv (ok := (fun k_ => (P2_ k_ ∨ w.heap.size ≤ k_) ∧ some k_ ≠ (.slice Ao46 y407.length co46 : Value).ownBlock ∧ k_ ≠ gb384 ∧ k_ ≠ gb385)) (by (with_reducible repeat (first | apply Kd.V_alloc | apply Kd.V_drewN | apply Kd.V_drew)); exact HO_2.out) hg hat)
                 have n1_ := Aside0.mk (Kd.V_afterv (ok := (fun k_ => (P2_ k_ ∨ w.heap.size ≤ k_) ∧ some k_ ≠ (.slice Ao46 y407.length co46 : Value).ownBlock ∧ k_ ≠ gb384 ∧ k_ ≠ gb385)) (by (with_reducible repeat (first | apply Kd.V_alloc | apply Kd.V_drewN | apply Kd.V_drew)); exact HO_7.out) hg hat)
                 have n2_ := Aside0.mk (Kd.V_afterv (ok := (fun k_ => (P2_ k_ ∨ w.heap.size ≤ k_) ∧ some k_ ≠ (.slice Ao46 y407.length co46 : Value).ownBlock ∧ k_ ≠ gb384 ∧ k_ ≠ gb385)) (by (with_reducible repeat (first | apply Kd.V_alloc | apply Kd.V_drewN | apply Kd.V_drew)); exact HO_27.out) hg hat)
                 have n3_ := Aside0.mk (blk_grown (g := gb384) (o := .cells #[.int .i64 a0_0, .int .i64 a0_1, .int .i64 a0_2, .int .u64 a0_3, .int .u64 a0_4, .int .u64 a0_5] 37 (0, 0)) (by (with_reducible repeat (first | refine blk_drewN ?_ _ | refine blk_drew ?_ | refine blk_alloc ?_ _)); exact BK384.out) hg (Kd.N_ne HO412.out BK384.out (by decide)))
                 have n4_ := Aside0.mk (blk_grown (g := gb385) (o := .cells #[.slice A1_0 l1_0.length c1_0, .int .u64 a1_1, .int .u64 a1_2, .int .i64 a1_3, .int .i64 a1_4] 72 (0, 0)) (by (with_reducible repeat (first | refine blk_drewN ?_ _ | refine blk_drew ?_ | refine blk_alloc ?_ _)); exact BK385.out) hg (Kd.N_ne HO412.out BK385.out (by decide)))
                 have n5_ := Aside0.mk (Kd.V_afterv (ok := (fun k_ => (P2_ k_ ∨ w.heap.size ≤ k_) ∧ some k_ ≠ (.slice Ao46 y407.length co46 : Value).ownBlock ∧ k_ ≠ gb384 ∧ k_ ≠ gb385)) (by (with_reducible repeat (first | apply Kd.V_alloc | apply Kd.V_drewN | apply Kd.V_drew)); exact HO403.out) hg hat)
                 have n6_ := Aside0.mk (Kd.V_afterv (ok := (fun k_ => (P2_ k_ ∨ w.heap.size ≤ k_) ∧ some k_ ≠ (.slice Ao46 y407.length co46 : Value).ownBlock ∧ k_ ≠ gb384 ∧ k_ ≠ gb385)) (by (with_reducible repeat (first | apply Kd.V_alloc | apply Kd.V_drewN | apply Kd.V_drew)); exact HO417.out) hg hat)
                 have n7_ := Aside0.mk (Kd.N_afterv (ok := (fun k_ => (P2_ k_ ∨ w.heap.size ≤ k_) ∧ k_ ≠ gb384 ∧ k_ ≠ gb385)) (by (with_reducible repeat (first | apply Kd.N_alloc | apply Kd.N_drewN | apply Kd.N_drew)); exact HO409.out) hg hat)
                 have n8_ := Aside0.mk (hb)
                 have n9_ := Aside0.mk (ho)
                 clear HO_2
                 clear HO_7
                 clear HO_27
                 clear BK384
                 clear BK385
                 clear HO403
                 clear HO417
                 clear HO409
                 clear HB
                 clear HO412
                 have HO_2 := n0_
                 have HO_7 := n1_
                 have HO_27 := n2_
                 have BK384 := n3_
                 have BK385 := n4_
                 have HO403 := n5_
                 have HO417 := n6_
                 have HO409 := n7_
                 have HB := n8_
                 have HO420 := n9_
                 clear n0_ n1_ n2_ n3_ n4_ n5_ n6_ n7_ n8_ n9_
                 clear ho hb hg hat
                 refine hK.out _ _ ⟨(blk_cell BK385.out 0).trans rfl, (blk_cell BK385.out 1).trans rfl, (blk_cell BK385.out 2).trans rfl, (blk_cell BK385.out 3).trans rfl, (blk_cell BK385.out 4).trans rfl⟩ (fun hHeld => ?_)
                 clear hK K
                 refine norm_ (a' := ?_) ?_ ?_
                 rotate_left
                 ·show Act.put _ (some 51) _ = _
                  simp only [Act.put, List.setIfInBounds_toArray, List.set_cons_zero, List.set_cons_succ, i64_w, i32_w]
                  rfl
                 refine pure_ (i := 14) (N := some 6) (v := ?_) (a' := ?_) #[true, true, true, true, true, true, true, true, true, true, true, true, true, true, true] rfl rfl (any_of HT_.out (by kernel_rfl)) (fun _ _ _ h => h) (Or.inl ⟨by rfl, ?_⟩) ?_ ?_
                 rotate_left
                 ·intro w'
                  go_simp
                  with_reducible rfl
                 rotate_left
                 ·simp only [Act.put, List.setIfInBounds_toArray, List.set_cons_zero, List.set_cons_succ, i64_w, i32_w]
                  rfl
                 refine done_ (done_of HT_.out (by kernel_rfl)) ?_
                 try go_wp2
                 go_ret
                 exact ⟨_, by first | rfl | (simp [errW_none, errW_some] <;> rfl) | (simp only [← hji11]; first | rfl | (simp [errW_none, errW_some] <;> rfl)) | (simp [*, errW_none, errW_some] <;> rfl), Kd.N_V (by (with_reducible repeat (first | apply Kd.N_alloc | apply Kd.N_drewN | apply Kd.N_drew)); exact Kd.N_mono HO420.out (fun _ hk => hk.1)), by repeat (first | (with_reducible first | exact HB.out | apply below_alloc | apply pw_below_drewN | apply below_drew1 | refine below_set ?_ GE384.out | refine below_set ?_ GE385.out) | exact HB.out)⟩
                ·rw [if_neg c34] at H
                 exact absurd H (by simp)
               ·rw [if_neg c33] at H
                exact absurd H (by simp)
              ·rw [if_neg c32] at H
               exact absurd H (by simp)
             ·rw [if_neg c31] at H
              exact absurd H (by simp)
            ·rw [if_neg c30] at H
             exact absurd H (by simp)
           ·rw [if_neg c29] at H
            exact absurd H (by simp)
          ·rw [if_neg c28] at H
           exact absurd H (by simp)
      ·rw [if_neg c14] at H
       exact absurd H (by simp)
     ·rw [if_neg c13] at H
      exact absurd H (by simp)
    ·rw [if_neg c12] at H
     exact absurd H (by simp)
   ·rw [if_neg c10] at H
    exact absurd H (by simp)
  ·rw [if_neg c9] at H
   exact absurd H (by simp)
end Go.Proofs.YtijldedhcjkhiaaDoor.I
