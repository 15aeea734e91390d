import Derived.Test.YtijldedhcjkhiaaDoorSUU0
import Derived.Test.YtijldedhcjkhiaaDoorSUU6
import Derived.Test.YtijldedhcjkhiaaDoorSUU7
namespace Go.Proofs.YtijldedhcjkhiaaDoor.U
open Go.RowKit Go.Proofs.YtijldedhcjkhiaaDoorW.PrintWords Go.Proofs.YtijldedhcjkhiaaDoorW.PrintLast Go.Proofs.YtijldedhcjkhiaaDoorW.PrintMore
attribute [local go_sem] max2_int min2_int max_two min_two max_three min_three max_four min_four   -- for this text's walks alone
set_option linter.unusedVariables false
set_option linter.unusedSimpArgs false
def spec_HashChildren.l0 : Nat → List Int → List Int → List Int → Int → Option (List Int)
  | 0, _, _, _, _ => none
  | k + 1, x1, x2, x7, x8 => if x8 ≥ 0 then (if 0 ≤ x8 then ((some (([(shr .u64 (IntKind.u64.wrap ((x1.length : Int))) x8) % 256] : List Int) : List Int)).bind fun y193 => (if x7.length + y193.length < 140737488355328 then (spec_HashChildren.l0 k x1 x2 (x7 ++ y193) (wrap64 (x8 - 8))) else (none))) else (none)) else (if x7.length + x1.length < 140737488355328 then ((some (x7 ++ x1 : List Int)).bind fun y199 => (if y199.length + x2.length < 140737488355328 then (some (y199 ++ x2)) else (none))) else (none))
def spec_HashChildren.f (k : Nat) (a0_0 : Int) (a0_1 : Int) (a0_2 : Int) (a0_3 : Int) (a0_4 : Int) (a0_5 : Int) (l1 : List Int) (l2 : List Int) : Option (List Int) := (spec_Terms.f a0_0 a0_1 a0_2 a0_3 a0_4 a0_5).bind fun t189 => (if t189 = true then (spec_HashChildren.l0 k l1 l2 (([1] : List Int)) 56) else ((some (([] : List Int) : List Int)).bind fun y205 => (if y205.length + l1.length < 140737488355328 then ((some (y205 ++ l1 : List Int)).bind fun y208 => ((some (([255] : List Int) : List Int)).bind fun y211 => (if y208.length + y211.length < 140737488355328 then ((some (y208 ++ y211 : List Int)).bind fun y214 => (if y214.length + l2.length < 140737488355328 then ((spec_word.f k a0_0 a0_1 a0_2 a0_3 a0_4 a0_5 a0_5 (y214 ++ l2)).bind fun t220 => (some t220)) else (none))) else (none)))) else (none))))
theorem spec_HashChildren.mono_l : ∀ k, (∀ y0 y1 y2 y3, LeO (spec_HashChildren.l0 k y0 y1 y2 y3) (spec_HashChildren.l0 (k + 1) y0 y1 y2 y3))
  | 0 => fun _ _ _ _ r h => by simp [spec_HashChildren.l0] at h
  | k + 1 => by
    have ih0 := spec_HashChildren.mono_l k
    · intro y0 y1 y2 y3
      unfold spec_HashChildren.l0
      repeat' first
      | (with_reducible exact ih0 _ _ _ _)
      | (with_reducible exact spec_word.mono _ _ _ _ _ _ _ _ _)
      | (with_reducible exact LeO.refl _)
      | (with_reducible exact LeO.none _)
      | (with_reducible refine LeO.ite ?_ ?_)
      | (with_reducible refine LeO.bind ?_ (fun _ => ?_))
      | exact ih0 _ _ _ _
      | exact spec_word.mono _ _ _ _ _ _ _ _ _
      | exact LeO.none _
      | refine LeO.ite ?_ ?_
      | refine LeO.bind ?_ (fun _ => ?_)
theorem spec_HashChildren.mono : ∀ a0 a1 a2 a3 a4 a5 a6 a7 k, LeO (spec_HashChildren.f k a0 a1 a2 a3 a4 a5 a6 a7) (spec_HashChildren.f (k + 1) a0 a1 a2 a3 a4 a5 a6 a7) := by
  intro a0 a1 a2 a3 a4 a5 a6 a7 k
  have ih0 := spec_HashChildren.mono_l k
  unfold spec_HashChildren.f
  repeat' first
      | (with_reducible exact ih0 _ _ _ _)
      | (with_reducible exact spec_word.mono _ _ _ _ _ _ _ _ _)
      | (with_reducible exact LeO.refl _)
      | (with_reducible exact LeO.none _)
      | (with_reducible refine LeO.ite ?_ ?_)
      | (with_reducible refine LeO.bind ?_ (fun _ => ?_))
      | exact ih0 _ _ _ _
      | exact spec_word.mono _ _ _ _ _ _ _ _ _
      | exact LeO.none _
      | refine LeO.ite ?_ ?_
      | refine LeO.bind ?_ (fun _ => ?_)
def spec_HashChildren.T8 : Bool × List (List Nat × List Nat) := (true, [([], []), ([], []), ([1], [1]), ([], []), ([], []), ([3, 4], [3, 4]), ([], []), ([5, 6, 5], [5, 6]), ([], []), ([7, 8, 7], [7, 8]), ([0, 2, 9, 9], [0, 2, 9]), ([10, 10, 0, 1, 2, 3, 4, 5, 6, 7, 8, 9, 10], [10])])
def spec_HashChildren.B8 : List Nat := [0, 0, 2, 0, 0, 24, 0, 120, 0, 504, 1023, 2047]
theorem spec_HashChildren.tab8 : rtab .any (opsOf Tryd.f75 8) = spec_HashChildren.T8 := by kernel_rfl
theorem spec_HashChildren.bits8 : waitsOk spec_HashChildren.T8.2 spec_HashChildren.B8 = true := by kernel_rfl
set_option maxHeartbeats 8000000 in
set_option maxRecDepth 100000 in
theorem spec_HashChildren.calls (k : Nat) (a0_0 : Int) (a0_1 : Int) (a0_2 : Int) (a0_3 : Int) (a0_4 : Int) (a0_5 : Int) (A1 : Option Addr) (c1 : Nat) (l1 : List Int) (A2 : Option Addr) (c2 : Nat) (l2 : List Int) (r : List Int) (w : World) (hr1 : Kd.C (Kd.int .u8) w A1 l1.length l1) (hc1 : l1.length ≤ c1) (hr2 : Kd.C (Kd.int .u8) w A2 l2.length l2) (hc2 : l2.length ≤ c2) (h : spec_HashChildren.f k a0_0 a0_1 a0_2 a0_3 a0_4 a0_5 l1 l2 = some r) :
    Calls Tryd.prog 75 #[.agg #[.int .i64 a0_0, .int .i64 a0_1, .int .i64 a0_2, .int .u64 a0_3, .int .u64 a0_4, .int .u64 a0_5], .slice A1 l1.length c1, .slice A2 l2.length c2] w fun e w' => ∃ v0_ : Value, e = .returned (v0_) ∧ Kd.R (Kd.int .u8) 5 w' w.heap.size (fun _ => True) v0_ r ∧ Below w.heap.size w w' := by
  have hu37 := Tryd.underlying37
  have HR1 := Aside0.mk hr1
  have HC1 := Aside0.mk hc1
  clear hr1 hc1
  have HR2 := Aside0.mk hr2
  have HC2 := Aside0.mk hc2
  clear hr2 hc2
  have HB := Aside0.mk (Below.refl w.heap.size w)
  have H : ((spec_Terms.f a0_0 a0_1 a0_2 a0_3 a0_4 a0_5).bind fun t189 => (if t189 = true then (spec_HashChildren.l0 k l1 l2 (([1] : List Int)) 56) else ((some (([] : List Int) : List Int)).bind fun y205 => (if y205.length + l1.length < 140737488355328 then ((some (y205 ++ l1 : List Int)).bind fun y208 => ((some (([255] : List Int) : List Int)).bind fun y211 => (if y208.length + y211.length < 140737488355328 then ((some (y208 ++ y211 : List Int)).bind fun y214 => (if y214.length + l2.length < 140737488355328 then ((spec_word.f k a0_0 a0_1 a0_2 a0_3 a0_4 a0_5 a0_5 (y214 ++ l2)).bind fun t220 => (some t220)) else (none))) else (none)))) else (none))))) = some r := h
  clear h
  replace H := Option.bind_eq_some_iff.mp H
  obtain ⟨t189, A40, H⟩ := H
  replace H : (if t189 = true then (spec_HashChildren.l0 k l1 l2 (([1] : List Int)) 56) else ((some (([] : List Int) : List Int)).bind fun y205 => (if y205.length + l1.length < 140737488355328 then ((some (y205 ++ l1 : List Int)).bind fun y208 => ((some (([255] : List Int) : List Int)).bind fun y211 => (if y208.length + y211.length < 140737488355328 then ((some (y208 ++ y211 : List Int)).bind fun y214 => (if y214.length + l2.length < 140737488355328 then ((spec_word.f k a0_0 a0_1 a0_2 a0_3 a0_4 a0_5 a0_5 (y214 ++ l2)).bind fun t220 => (some t220)) else (none))) else (none)))) else (none)))) = some r := H
  have A4 := Aside0.mk A40
  clear A40
  by_cases c5 : t189 = true
  · subst c5
    have H1 : (spec_HashChildren.l0 k l1 l2 (([1] : List Int)) 56) = some r := by rw [if_pos rfl] at H; exact H
    clear H
    have H := H1
    clear H1
    obtain ⟨y190, hy190⟩ : ∃ y_ : List Int, y_ = (([1] : List Int)) := ⟨_, rfl⟩
    replace H : (spec_HashChildren.l0 k l1 l2 y190 56) = some r := by first | (rw [hy190]; with_reducible exact H) | (have H2_ := (Option.bind_some _ _).symm.trans H; rw [hy190]; with_reducible exact H2_) | (have H2_ := (Option.bind_some _ _).symm.trans H; with_reducible exact H2_) | with_reducible exact H | (rw [hy190]; exact H) | exact H
    have Ny190 := Aside0.mk hy190
    clear hy190
    have H' := Aside0.mk H
    clear H
    go_enter Tryd.func75, Tryd.ntmps75
    go_wp2_with (first | ((with_reducible refine gate_dst (N := 3) rfl ?_); refine box_event ?hg (N := 3) ?hd (cs := #[.int .i64 a0_0, .int .i64 a0_1, .int .i64 a0_2, .int .u64 a0_3, .int .u64 a0_4, .int .u64 a0_5]) (t := 37) ?hr ?_; (case hd => rfl); (case hg => rfl); (case hr => first | (go_simp; done) | (go_simp; rfl)); intro gb188 hg w6 hbox hb; have n0_ := Aside0.mk (below_step (by repeat (first | (with_reducible first | exact HB.out | apply below_alloc | apply pw_below_drewN | apply below_drew1) | exact HB.out)) hb); have n1_ := Aside0.mk (hbox); have n2_ := Aside0.mk ((by rw [hg]; exact (below_size (by repeat (first | (with_reducible first | exact HB.out | apply below_alloc | apply pw_below_drewN | apply below_drew1) | exact HB.out))) : w.heap.size ≤ gb188)); have n3_ := Aside0.mk ((by rw [hg]; exact (below_size (by repeat (first | (with_reducible first | exact HB.out | apply below_alloc | apply pw_below_drewN | apply below_drew1) | exact HB.out))) : w.heap.size ≤ gb188)); clear HB; have HB := n0_; have BK188 := n1_; have GW188 := n2_; have GE188 := n3_; clear n0_ n1_ n2_ n3_; clear hb hbox hg; have hcz7_0 : w6.cell? ⟨gb188, 0, none⟩ = some (.int .i64 a0_0) := (blk_cell BK188.out 0).trans rfl; have hcz7_1 : w6.cell? ⟨gb188, 1, none⟩ = some (.int .i64 a0_1) := (blk_cell BK188.out 1).trans rfl; have hcz7_2 : w6.cell? ⟨gb188, 2, none⟩ = some (.int .i64 a0_2) := (blk_cell BK188.out 2).trans rfl; have hcz7_3 : w6.cell? ⟨gb188, 3, none⟩ = some (.int .u64 a0_3) := (blk_cell BK188.out 3).trans rfl; have hcz7_4 : w6.cell? ⟨gb188, 4, none⟩ = some (.int .u64 a0_4) := (blk_cell BK188.out 4).trans rfl; have hcz7_5 : w6.cell? ⟨gb188, 5, none⟩ = some (.int .u64 a0_5) := (blk_cell BK188.out 5).trans rfl; have hfz7_0 := blk_frozen BK188.out 0; have hfz7_1 := blk_frozen BK188.out 1; have hfz7_2 := blk_frozen BK188.out 2; have hfz7_3 := blk_frozen BK188.out 3; have hfz7_4 := blk_frozen BK188.out 4; have hfz7_5 := blk_frozen BK188.out 5) | ((with_reducible refine gate_callee (f := 77) rfl ?_); refine goesL_ (some 10) rfl rfl Tryd.func77 (by kernel_rfl) rfl #[.agg #[.int .i64 a0_0, .int .i64 a0_1, .int .i64 a0_2, .int .u64 a0_3, .int .u64 a0_4, .int .u64 a0_5]] rfl (by (try simp only [List.map_toArray, List.map_cons, List.map_nil]); first | done | rfl | (simp only [List.length_drop, List.length_take]; rfl)) ?_; (with_reducible refine (spec_Terms.calls a0_0 a0_1 a0_2 a0_3 a0_4 a0_5 true _ A4.out).mono ?_); rintro e w8 ⟨rfl, hb⟩; refine ⟨_, rfl, ?_⟩; have n0_ := Aside0.mk (blk_below (g := gb188) (o := .cells #[.int .i64 a0_0, .int .i64 a0_1, .int .i64 a0_2, .int .u64 a0_3, .int .u64 a0_4, .int .u64 a0_5] 37 (0, 0)) (by (with_reducible repeat (first | refine blk_drewN ?_ _ | refine blk_drew ?_ | refine blk_alloc ?_ _)); exact BK188.out) hb); have n1_ := Aside0.mk (below_step (by repeat (first | (with_reducible first | exact HB.out | apply below_alloc | apply pw_below_drewN | apply below_drew1 | refine below_set ?_ GE188.out) | exact HB.out)) hb); clear BK188; clear HB; have BK188 := n0_; have HB := n1_; clear n0_ n1_; (try clear hb); (try clear hb2); (try clear hk); (try clear hi)) | ((with_reducible refine gate_dst (N := 11) rfl ?_); refine Kd.R_lit (Kd.int .u8) _ 5 ?hg (N := 11) ?hd (xs := ([1] : List Int)) (inner := [.int .u8 1]) (ok := fun _ => True) (okp := fun _ => True) ?hr ?hp (fun _ hk => hk) trivial (Below.refl _ _) (Nat.le_refl _) (by simp) ?_; (case hd => rfl); (case hg => rfl); (case hr => first | (go_simp; done) | (go_simp; rfl)); (case hp => exact (Reps.one (show Kd.M (Kd.int .u8) _ _ _ 1 [.int .u8 1] from rfl) (Reps.none _ _))); intro v191 w9 ho10 hb hg_ hnew_; clear hg_ hnew_; (first | rw [← Ny190.out] at ho10 | (simp only [Int.reduceToNat] at ho10; rw [← Ny190.out] at ho10)); have n0_ := Aside0.mk (Kd.R_lower ho10 (below_size (by repeat (first | (with_reducible first | exact HB.out | apply below_alloc | apply pw_below_drewN | apply below_drew1 | refine below_set ?_ GE188.out) | exact HB.out)))); have n1_ := Aside0.mk (blk_below (g := gb188) (o := .cells #[.int .i64 a0_0, .int .i64 a0_1, .int .i64 a0_2, .int .u64 a0_3, .int .u64 a0_4, .int .u64 a0_5] 37 (0, 0)) (by (with_reducible repeat (first | refine blk_drewN ?_ _ | refine blk_drew ?_ | refine blk_alloc ?_ _)); exact BK188.out) hb); have n2_ := Aside0.mk (below_step (by repeat (first | (with_reducible first | exact HB.out | apply below_alloc | apply pw_below_drewN | apply below_drew1 | refine below_set ?_ GE188.out) | exact HB.out)) hb); clear BK188; clear HB; have HO192 := n0_; have BK188 := n1_; have HB := n2_; clear n0_ n1_ n2_; clear hb ho10))
    try simp only [Act.put, List.setIfInBounds_toArray, List.set_cons_zero, List.set_cons_succ]
    go_loopg [7, 8] k (fun kq v7 v8 w' => ∃ (x7_1 : List Int) (x8_1 : Int), v8 = .int .i64 x8_1 ∧ Aside0 (spec_HashChildren.l0 kq l1 l2 x7_1 x8_1 = some r) ∧ Aside0 (kq ≤ k) ∧ Aside0 (Kd.R (Kd.int .u8) 5 w' w.heap.size (fun _ => True) v7 x7_1) ∧ Aside0 (w'.heap[gb188]? = some (.cells #[.int .i64 a0_0, .int .i64 a0_1, .int .i64 a0_2, .int .u64 a0_3, .int .u64 a0_4, .int .u64 a0_5] 37 (0, 0))) ∧ Aside0 (Below w.heap.size w w'))
    case atStart => exact ⟨(y190), (56), (by first | rfl | (simp; done) | (simp [*]; done)), H', ⟨Nat.le_refl _⟩, ⟨by (with_reducible repeat (first | apply Kd.R_alloc | apply Kd.R_drewN | apply Kd.R_drew)); exact HO192.out⟩, ⟨by (with_reducible repeat (first | refine blk_drewN ?_ _ | refine blk_drew ?_ | refine blk_alloc ?_ _)); exact BK188.out⟩, ⟨by repeat (first | (with_reducible first | exact HB.out | apply below_alloc | apply pw_below_drewN | apply below_drew1 | refine below_set ?_ GE188.out) | exact HB.out)⟩⟩
    case round =>
      clear H'
      try clear c1
      try clear c2
      try clear p2
      try clear c5
      try clear c7
      try clear hcz7_0
      try clear hcz7_1
      try clear hcz7_2
      try clear hcz7_3
      try clear hcz7_4
      try clear hcz7_5
      try clear hfz7_0
      try clear hfz7_1
      try clear hfz7_2
      try clear hfz7_3
      try clear hfz7_4
      try clear hfz7_5
      obtain ⟨x7_1, x8_1, rfl, HA, HK1, HO_7, BK188, HB⟩ := hrel
      cases gk with
      | zero => exact absurd HA.out (by simp [spec_HashChildren.l0])
      | succ k1 =>
        have H := HA.out
        clear HA
        simp only [spec_HashChildren.l0] at H
        by_cases c11 : x8_1 ≥ 0
        · rw [if_pos c11] at H
          have c11b0 : decide (0 ≤ x8_1) = true := decide_eq_true c11
          clear c11
          by_cases c12 : 0 ≤ x8_1
          · rw [if_pos c12] at H
            have c12b0 := eq_true c12
            have c12b1 : decide (0 ≤ x8_1) = true := decide_eq_true c12
            clear c12
            obtain ⟨ji13, hji13⟩ : ∃ j_ : Int, (shr .u64 (IntKind.u64.wrap ((l1.length : Int))) x8_1) = j_ := ⟨_, rfl⟩
            replace H : ((some (([(ji13) % 256] : List Int) : List Int)).bind fun y193 => (if x7_1.length + y193.length < 140737488355328 then (spec_HashChildren.l0 k1 l1 l2 (x7_1 ++ y193) (wrap64 (x8_1 - 8))) else (none))) = some r := by first | (rw [hji13] at H; exact H) | (simp only [hji13] at H ⊢; exact H)
            have hji13_ : ((IntKind.u64.wrap ((l1.length : Int))) / 2 ^ min x8_1.toNat 64) = ji13 := hji13
            have hji13z : x8_1 ≤ 64 → ((IntKind.u64.wrap ((l1.length : Int))) / 2 ^ x8_1.toNat) = ji13 := shr_small hji13
            obtain ⟨y193, hy193⟩ : ∃ y_ : List Int, y_ = (([(ji13) % 256] : List Int)) := ⟨_, rfl⟩
            replace H : (if x7_1.length + y193.length < 140737488355328 then (spec_HashChildren.l0 k1 l1 l2 (x7_1 ++ y193) (wrap64 (x8_1 - 8))) else (none)) = some r := by first | (rw [hy193]; with_reducible exact H) | (have H2_ := (Option.bind_some _ _).symm.trans H; rw [hy193]; with_reducible exact H2_) | (have H2_ := (Option.bind_some _ _).symm.trans H; with_reducible exact H2_) | with_reducible exact H | (rw [hy193]; exact H) | exact H
            have Ny193 := Aside0.mk hy193
            clear hy193
            by_cases c14 : x7_1.length + y193.length < 140737488355328
            · rw [if_pos c14] at H
              have LMc14 := Aside0.mk c14
              clear c14
              obtain ⟨y196, hy196⟩ : ∃ y_ : List Int, y_ = (x7_1 ++ y193) := ⟨_, rfl⟩
              replace H : (spec_HashChildren.l0 k1 l1 l2 y196 (wrap64 (x8_1 - 8))) = some r := by first | (rw [hy196]; with_reducible exact H) | (have H2_ := (Option.bind_some _ _).symm.trans H; rw [hy196]; with_reducible exact H2_) | (have H2_ := (Option.bind_some _ _).symm.trans H; with_reducible exact H2_) | with_reducible exact H | (rw [hy196]; exact H) | exact H
              have Ny196 := Aside0.mk hy196
              clear hy196
              have H' := Aside0.mk H
              clear H
              go_wp2_with (first | ((with_reducible refine gate_dst (N := 23) rfl ?_); refine Kd.R_lit (Kd.int .u8) _ 5 ?hg (N := 23) ?hd (xs := ([(ji13) % 256] : List Int)) (inner := [.int .u8 ((ji13) % 256)]) (ok := fun _ => True) (okp := fun _ => True) ?hr ?hp (fun _ hk => hk) trivial (Below.refl _ _) (Nat.le_refl _) (by simp) ?_; (case hd => rfl); (case hg => rfl); (case hr => first | (go_simp; done) | (go_simp; rfl)); (case hp => exact (Reps.one (show Kd.M (Kd.int .u8) _ _ _ ((ji13) % 256) [.int .u8 ((ji13) % 256)] from rfl) (Reps.none _ _))); intro v194 w15 ho16 hb hg_ hnew_; clear hg_ hnew_; (first | rw [← Ny193.out] at ho16 | (simp only [Int.reduceToNat] at ho16; rw [← Ny193.out] at ho16)); have n0_ := Aside0.mk (Kd.R_elder' (by (with_reducible repeat (first | apply Kd.R_alloc | apply Kd.R_drewN | apply Kd.R_drew)); exact HO_7.out) (Kd.R_base ho16) hb); have n1_ := Aside0.mk (Kd.R_lower (Kd.R_new' ho16 (Kd.R_lt (by (with_reducible repeat (first | apply Kd.R_alloc | apply Kd.R_drewN | apply Kd.R_drew)); exact HO_7.out))) (below_size (by repeat (first | (with_reducible first | exact HB.out | apply below_alloc | apply pw_below_drewN | apply below_drew1 | refine below_set ?_ GE188.out) | exact HB.out)))); have n2_ := Aside0.mk (blk_below (g := gb188) (o := .cells #[.int .i64 a0_0, .int .i64 a0_1, .int .i64 a0_2, .int .u64 a0_3, .int .u64 a0_4, .int .u64 a0_5] 37 (0, 0)) (by (with_reducible repeat (first | refine blk_drewN ?_ _ | refine blk_drew ?_ | refine blk_alloc ?_ _)); exact BK188.out) hb); have n3_ := Aside0.mk (below_step (by repeat (first | (with_reducible first | exact HB.out | apply below_alloc | apply pw_below_drewN | apply below_drew1 | refine below_set ?_ GE188.out) | exact HB.out)) hb); clear HO_7; clear BK188; clear HB; have HO_7 := n0_; have HO195 := n1_; have BK188 := n2_; have HB := n3_; clear n0_ n1_ n2_ n3_; clear hb ho16; obtain ⟨Ao18, co18, eo18⟩ := Kd.R_slice HO195.out; subst eo18) | ((with_reducible refine gate_builtin (b := .append) (xs := #[.tmp 16, .tmp 23]) rfl ?_); at_builtin; refine Kd.R_append_rows (Kd.int .u8) (w0 := w) w.heap.size rfl (.tmp 16) (.tmp 23) 42 5 (.int .u8 0) 1 rfl Tryd.underlying42 info5 rfl (by decide) (by omega) u7 x7_1 y193 _ _ _ (fun k_ => some k_ ≠ (.slice Ao18 y193.length co18 : Value).ownBlock) (fun _ => False) rfl rfl ?aO ?aR (fun _ _ h => h) (fun _ h => h.elim) ?aF ?aB ?aS ?aL ?_; (case aR => repeat (first | exact (Kd.R_reads' HO195.out).2.2 | (with_reducible refine Kd.C_alloc ?_ _) | (with_reducible refine Kd.C_drewN ?_ _) | (with_reducible refine Kd.C_drew ?_))); (case aB => exact (by repeat (first | (with_reducible first | exact HB.out | apply below_alloc | apply pw_below_drewN | apply below_drew1 | refine below_set ?_ GE188.out) | exact HB.out))); (case aF => exact (fun k_ hk => Kd.fresh' (Kd.R_lt (by (with_reducible repeat (first | apply Kd.R_alloc | apply Kd.R_drewN | apply Kd.R_drew)); exact HO195.out)) k_ hk)); (case aO => exact (by (with_reducible repeat (first | apply Kd.R_alloc | apply Kd.R_drewN | apply Kd.R_drew)); exact Kd.R_mono HO_7.out (fun _ hk => hk.2))); (case aS => exact (below_size (by repeat (first | (with_reducible first | exact HB.out | apply below_alloc | apply pw_below_drewN | apply below_drew1 | refine below_set ?_ GE188.out) | exact HB.out)))); (case aL => have := LMc14.out; omega); intro v197 w17 ho hb hg hat; rw [← Ny196.out] at ho; have n0_ := Aside0.mk (blk_grown (g := gb188) (o := .cells #[.int .i64 a0_0, .int .i64 a0_1, .int .i64 a0_2, .int .u64 a0_3, .int .u64 a0_4, .int .u64 a0_5] 37 (0, 0)) (by (with_reducible repeat (first | refine blk_drewN ?_ _ | refine blk_drew ?_ | refine blk_alloc ?_ _)); exact BK188.out) hg (Kd.R_ne HO_7.out BK188.out (by decide))); have n1_ := Aside0.mk (Kd.R_after (ok := (fun _ => True)) (by (with_reducible repeat (first | apply Kd.R_alloc | apply Kd.R_drewN | apply Kd.R_drew)); exact HO195.out) hg hat); have n2_ := Aside0.mk (hb); have n3_ := Aside0.mk (ho); clear BK188; clear HO195; clear HB; clear HO_7; have BK188 := n0_; have HO195 := n1_; have HB := n2_; have HO198 := n3_; clear n0_ n1_ n2_ n3_; clear ho hb hg hat))
              go_roundg k1
              case measure => have := HK1.out; omega
              case rel => exact ⟨(y196), (wrap64 (x8_1 - 8)), (by first | rfl | (simp; done) | (simp [*]; done)), H', ⟨by have := HK1.out; omega⟩, ⟨by (with_reducible repeat (first | apply Kd.R_alloc | apply Kd.R_drewN | apply Kd.R_drew)); exact Kd.R_mono HO198.out (fun _ hk => trivial)⟩, ⟨by (with_reducible repeat (first | refine blk_drewN ?_ _ | refine blk_drew ?_ | refine blk_alloc ?_ _)); exact BK188.out⟩, ⟨by repeat (first | (with_reducible first | exact HB.out | apply below_alloc | apply pw_below_drewN | apply below_drew1 | refine below_set ?_ GE188.out) | exact HB.out)⟩⟩
            · rw [if_neg c14] at H
              exact absurd H (by simp)
          · rw [if_neg c12] at H
            exact absurd H (by simp)
        · rw [if_neg c11] at H
          have c11b0 : decide (0 ≤ x8_1) = false := decide_eq_false c11
          clear c11
          by_cases c19 : x7_1.length + l1.length < 140737488355328
          · rw [if_pos c19] at H
            have LMc19 := Aside0.mk c19
            clear c19
            obtain ⟨y199, hy199⟩ : ∃ y_ : List Int, y_ = (x7_1 ++ l1) := ⟨_, rfl⟩
            replace H : (if y199.length + l2.length < 140737488355328 then (some (y199 ++ l2)) else (none)) = some r := by first | (rw [hy199]; with_reducible exact H) | (have H2_ := (Option.bind_some _ _).symm.trans H; rw [hy199]; with_reducible exact H2_) | (have H2_ := (Option.bind_some _ _).symm.trans H; with_reducible exact H2_) | with_reducible exact H | (rw [hy199]; exact H) | exact H
            have Ny199 := Aside0.mk hy199
            clear hy199
            by_cases c20 : y199.length + l2.length < 140737488355328
            · rw [if_pos c20] at H
              have LMc20 := Aside0.mk c20
              clear c20
              obtain ⟨y202, hy202⟩ : ∃ y_ : List Int, y_ = (y199 ++ l2) := ⟨_, rfl⟩
              replace H : (some y202) = some r := by first | (rw [hy202]; with_reducible exact H) | (have H2_ := (Option.bind_some _ _).symm.trans H; rw [hy202]; with_reducible exact H2_) | (have H2_ := (Option.bind_some _ _).symm.trans H; with_reducible exact H2_) | with_reducible exact H | (rw [hy202]; exact H) | exact H
              have Ny202 := Aside0.mk hy202
              clear hy202
              obtain rfl := Option.some.inj H
              go_wp2_with (first | ((with_reducible refine gate_builtin (b := .append) (xs := #[.tmp 25, .tmp 26]) rfl ?_); at_builtin; refine Kd.R_append_rows (Kd.int .u8) (w0 := w) w.heap.size rfl (.tmp 25) (.tmp 26) 42 5 (.int .u8 0) 1 rfl Tryd.underlying42 info5 rfl (by decide) (by omega) u7 x7_1 l1 _ _ _ (fun _ => True) (fun _ => False) rfl rfl ?aO ?aR (fun _ _ h => h) (fun _ h => h.elim) ?aF ?aB ?aS ?aL ?_; (case aR => repeat (first | exact (Kd.C_below HR1.out HB.out) | (with_reducible refine Kd.C_alloc ?_ _) | (with_reducible refine Kd.C_drewN ?_ _) | (with_reducible refine Kd.C_drew ?_))); (case aB => exact (by repeat (first | (with_reducible first | exact HB.out | apply below_alloc | apply pw_below_drewN | apply below_drew1 | refine below_set ?_ GE188.out) | exact HB.out))); (case aF => exact (fun _ _ => trivial)); (case aO => exact (by (with_reducible repeat (first | apply Kd.R_alloc | apply Kd.R_drewN | apply Kd.R_drew)); exact HO_7.out)); (case aS => exact (below_size (by repeat (first | (with_reducible first | exact HB.out | apply below_alloc | apply pw_below_drewN | apply below_drew1 | refine below_set ?_ GE188.out) | exact HB.out)))); (case aL => have := LMc19.out; omega); intro v200 w21 ho hb hg hat; rw [← Ny199.out] at ho; have n0_ := Aside0.mk (blk_grown (g := gb188) (o := .cells #[.int .i64 a0_0, .int .i64 a0_1, .int .i64 a0_2, .int .u64 a0_3, .int .u64 a0_4, .int .u64 a0_5] 37 (0, 0)) (by (with_reducible repeat (first | refine blk_drewN ?_ _ | refine blk_drew ?_ | refine blk_alloc ?_ _)); exact BK188.out) hg (Kd.R_ne HO_7.out BK188.out (by decide))); have n1_ := Aside0.mk (hb); have n2_ := Aside0.mk (ho); clear BK188; clear HB; clear HO_7; have BK188 := n0_; have HB := n1_; have HO201 := n2_; clear n0_ n1_ n2_; clear ho hb hg hat) | ((with_reducible refine gate_builtin (b := .append) (xs := #[.tmp 27, .tmp 28]) rfl ?_); at_builtin; refine Kd.R_append_rows (Kd.int .u8) (w0 := w) w.heap.size rfl (.tmp 27) (.tmp 28) 42 5 (.int .u8 0) 1 rfl Tryd.underlying42 info5 rfl (by decide) (by omega) v200 y199 l2 _ _ _ (fun _ => True) (fun _ => False) rfl rfl ?aO ?aR (fun _ _ h => h) (fun _ h => h.elim) ?aF ?aB ?aS ?aL ?_; (case aR => repeat (first | exact (Kd.C_below HR2.out HB.out) | (with_reducible refine Kd.C_alloc ?_ _) | (with_reducible refine Kd.C_drewN ?_ _) | (with_reducible refine Kd.C_drew ?_))); (case aB => exact (by repeat (first | (with_reducible first | exact HB.out | apply below_alloc | apply pw_below_drewN | apply below_drew1 | refine below_set ?_ GE188.out) | exact HB.out))); (case aF => exact (fun _ _ => trivial)); (case aO => exact (by (with_reducible repeat (first | apply Kd.R_alloc | apply Kd.R_drewN | apply Kd.R_drew)); exact HO201.out)); (case aS => exact (below_size (by repeat (first | (with_reducible first | exact HB.out | apply below_alloc | apply pw_below_drewN | apply below_drew1 | refine below_set ?_ GE188.out) | exact HB.out)))); (case aL => have := LMc20.out; omega); intro v203 w22 ho hb hg hat; rw [← Ny202.out] at ho; have n0_ := Aside0.mk (blk_grown (g := gb188) (o := .cells #[.int .i64 a0_0, .int .i64 a0_1, .int .i64 a0_2, .int .u64 a0_3, .int .u64 a0_4, .int .u64 a0_5] 37 (0, 0)) (by (with_reducible repeat (first | refine blk_drewN ?_ _ | refine blk_drew ?_ | refine blk_alloc ?_ _)); exact BK188.out) hg (Kd.R_ne HO201.out BK188.out (by decide))); have n1_ := Aside0.mk (hb); have n2_ := Aside0.mk (ho); clear BK188; clear HB; clear HO201; have BK188 := n0_; have HB := n1_; have HO204 := n2_; clear n0_ n1_ n2_; clear ho hb hg hat))
              go_ret
              exact ⟨_, by first | rfl | (simp [errW_none, errW_some] <;> rfl) | (simp [*, errW_none, errW_some] <;> rfl), by (with_reducible repeat (first | apply Kd.R_alloc | apply Kd.R_drewN | apply Kd.R_drew)); exact HO204.out, by repeat (first | (with_reducible first | exact HB.out | apply below_alloc | apply pw_below_drewN | apply below_drew1 | refine below_set ?_ GE188.out) | exact HB.out)⟩
            · rw [if_neg c20] at H
              exact absurd H (by simp)
          · rw [if_neg c19] at H
            exact absurd H (by simp)
  · replace c5 := Bool.eq_false_iff.mpr c5
    subst c5
    have H1 : ((some (([] : List Int) : List Int)).bind fun y205 => (if y205.length + l1.length < 140737488355328 then ((some (y205 ++ l1 : List Int)).bind fun y208 => ((some (([255] : List Int) : List Int)).bind fun y211 => (if y208.length + y211.length < 140737488355328 then ((some (y208 ++ y211 : List Int)).bind fun y214 => (if y214.length + l2.length < 140737488355328 then ((spec_word.f k a0_0 a0_1 a0_2 a0_3 a0_4 a0_5 a0_5 (y214 ++ l2)).bind fun t220 => (some t220)) else (none))) else (none)))) else (none))) = some r := by rw [if_neg (show ¬ (false = true) by decide)] at H; exact H
    clear H
    have H := H1
    clear H1
    obtain ⟨y205, hy205⟩ : ∃ y_ : List Int, y_ = (([] : List Int)) := ⟨_, rfl⟩
    replace H : (if y205.length + l1.length < 140737488355328 then ((some (y205 ++ l1 : List Int)).bind fun y208 => ((some (([255] : List Int) : List Int)).bind fun y211 => (if y208.length + y211.length < 140737488355328 then ((some (y208 ++ y211 : List Int)).bind fun y214 => (if y214.length + l2.length < 140737488355328 then ((spec_word.f k a0_0 a0_1 a0_2 a0_3 a0_4 a0_5 a0_5 (y214 ++ l2)).bind fun t220 => (some t220)) else (none))) else (none)))) else (none)) = some r := by first | (rw [hy205]; with_reducible exact H) | (have H2_ := (Option.bind_some _ _).symm.trans H; rw [hy205]; with_reducible exact H2_) | (have H2_ := (Option.bind_some _ _).symm.trans H; with_reducible exact H2_) | with_reducible exact H | (rw [hy205]; exact H) | exact H
    have Ny205 := Aside0.mk hy205
    clear hy205
    by_cases c23 : y205.length + l1.length < 140737488355328
    · rw [if_pos c23] at H
      have LMc23 := Aside0.mk c23
      clear c23
      obtain ⟨y208, hy208⟩ : ∃ y_ : List Int, y_ = (y205 ++ l1) := ⟨_, rfl⟩
      replace H : ((some (([255] : List Int) : List Int)).bind fun y211 => (if y208.length + y211.length < 140737488355328 then ((some (y208 ++ y211 : List Int)).bind fun y214 => (if y214.length + l2.length < 140737488355328 then ((spec_word.f k a0_0 a0_1 a0_2 a0_3 a0_4 a0_5 a0_5 (y214 ++ l2)).bind fun t220 => (some t220)) else (none))) else (none))) = some r := by first | (rw [hy208]; with_reducible exact H) | (have H2_ := (Option.bind_some _ _).symm.trans H; rw [hy208]; with_reducible exact H2_) | (have H2_ := (Option.bind_some _ _).symm.trans H; with_reducible exact H2_) | with_reducible exact H | (rw [hy208]; exact H) | exact H
      have Ny208 := Aside0.mk hy208
      clear hy208
      obtain ⟨y211, hy211⟩ : ∃ y_ : List Int, y_ = (([255] : List Int)) := ⟨_, rfl⟩
      replace H : (if y208.length + y211.length < 140737488355328 then ((some (y208 ++ y211 : List Int)).bind fun y214 => (if y214.length + l2.length < 140737488355328 then ((spec_word.f k a0_0 a0_1 a0_2 a0_3 a0_4 a0_5 a0_5 (y214 ++ l2)).bind fun t220 => (some t220)) else (none))) else (none)) = some r := by first | (rw [hy211]; with_reducible exact H) | (have H2_ := (Option.bind_some _ _).symm.trans H; rw [hy211]; with_reducible exact H2_) | (have H2_ := (Option.bind_some _ _).symm.trans H; with_reducible exact H2_) | with_reducible exact H | (rw [hy211]; exact H) | exact H
      have Ny211 := Aside0.mk hy211
      clear hy211
      by_cases c24 : y208.length + y211.length < 140737488355328
      · rw [if_pos c24] at H
        have LMc24 := Aside0.mk c24
        clear c24
        obtain ⟨y214, hy214⟩ : ∃ y_ : List Int, y_ = (y208 ++ y211) := ⟨_, rfl⟩
        replace H : (if y214.length + l2.length < 140737488355328 then ((spec_word.f k a0_0 a0_1 a0_2 a0_3 a0_4 a0_5 a0_5 (y214 ++ l2)).bind fun t220 => (some t220)) else (none)) = some r := by first | (rw [hy214]; with_reducible exact H) | (have H2_ := (Option.bind_some _ _).symm.trans H; rw [hy214]; with_reducible exact H2_) | (have H2_ := (Option.bind_some _ _).symm.trans H; with_reducible exact H2_) | with_reducible exact H | (rw [hy214]; exact H) | exact H
        have Ny214 := Aside0.mk hy214
        clear hy214
        by_cases c25 : y214.length + l2.length < 140737488355328
        · rw [if_pos c25] at H
          have LMc25 := Aside0.mk c25
          clear c25
          obtain ⟨y217, hy217⟩ : ∃ y_ : List Int, y_ = (y214 ++ l2) := ⟨_, rfl⟩
          replace H : ((spec_word.f k a0_0 a0_1 a0_2 a0_3 a0_4 a0_5 a0_5 y217).bind fun t220 => (some t220)) = some r := by first | (rw [hy217]; with_reducible exact H) | (have H2_ := (Option.bind_some _ _).symm.trans H; rw [hy217]; with_reducible exact H2_) | (have H2_ := (Option.bind_some _ _).symm.trans H; with_reducible exact H2_) | with_reducible exact H | (rw [hy217]; exact H) | exact H
          have Ny217 := Aside0.mk hy217
          clear hy217
          replace H := Option.bind_eq_some_iff.mp H
          obtain ⟨t220, A260, H⟩ := H
          replace H : (some t220) = some r := H
          have A26 := Aside0.mk A260
          clear A260
          obtain rfl := Option.some.inj H
          go_enter Tryd.func75, Tryd.ntmps75
          try go_wp2_with (first | ((with_reducible refine gate_dst (N := 3) rfl ?_); refine box_event ?hg (N := 3) ?hd (cs := #[.int .i64 a0_0, .int .i64 a0_1, .int .i64 a0_2, .int .u64 a0_3, .int .u64 a0_4, .int .u64 a0_5]) (t := 37) ?hr ?_; (case hd => rfl); (case hg => rfl); (case hr => first | (go_simp; done) | (go_simp; rfl)); intro gb188 hg w27 hbox hb; have n0_ := Aside0.mk (below_step (by repeat (first | (with_reducible first | exact HB.out | apply below_alloc | apply pw_below_drewN | apply below_drew1) | exact HB.out)) hb); have n1_ := Aside0.mk (hbox); have n2_ := Aside0.mk ((by rw [hg]; exact (below_size (by repeat (first | (with_reducible first | exact HB.out | apply below_alloc | apply pw_below_drewN | apply below_drew1) | exact HB.out))) : w.heap.size ≤ gb188)); have n3_ := Aside0.mk ((by rw [hg]; exact (below_size (by repeat (first | (with_reducible first | exact HB.out | apply below_alloc | apply pw_below_drewN | apply below_drew1) | exact HB.out))) : w.heap.size ≤ gb188)); clear HB; have HB := n0_; have BK188 := n1_; have GW188 := n2_; have GE188 := n3_; clear n0_ n1_ n2_ n3_; clear hb hbox hg; have hcz28_0 : w27.cell? ⟨gb188, 0, none⟩ = some (.int .i64 a0_0) := (blk_cell BK188.out 0).trans rfl; have hcz28_1 : w27.cell? ⟨gb188, 1, none⟩ = some (.int .i64 a0_1) := (blk_cell BK188.out 1).trans rfl; have hcz28_2 : w27.cell? ⟨gb188, 2, none⟩ = some (.int .i64 a0_2) := (blk_cell BK188.out 2).trans rfl; have hcz28_3 : w27.cell? ⟨gb188, 3, none⟩ = some (.int .u64 a0_3) := (blk_cell BK188.out 3).trans rfl; have hcz28_4 : w27.cell? ⟨gb188, 4, none⟩ = some (.int .u64 a0_4) := (blk_cell BK188.out 4).trans rfl; have hcz28_5 : w27.cell? ⟨gb188, 5, none⟩ = some (.int .u64 a0_5) := (blk_cell BK188.out 5).trans rfl; have hfz28_0 := blk_frozen BK188.out 0; have hfz28_1 := blk_frozen BK188.out 1; have hfz28_2 := blk_frozen BK188.out 2; have hfz28_3 := blk_frozen BK188.out 3; have hfz28_4 := blk_frozen BK188.out 4; have hfz28_5 := blk_frozen BK188.out 5) | ((with_reducible refine gate_callee (f := 77) rfl ?_); refine goesL_ (some 10) rfl rfl Tryd.func77 (by kernel_rfl) rfl #[.agg #[.int .i64 a0_0, .int .i64 a0_1, .int .i64 a0_2, .int .u64 a0_3, .int .u64 a0_4, .int .u64 a0_5]] rfl (by (try simp only [List.map_toArray, List.map_cons, List.map_nil]); first | done | rfl | (simp only [List.length_drop, List.length_take]; rfl)) ?_; (with_reducible refine (spec_Terms.calls a0_0 a0_1 a0_2 a0_3 a0_4 a0_5 false _ A4.out).mono ?_); rintro e w29 ⟨rfl, hb⟩; refine ⟨_, rfl, ?_⟩; have n0_ := Aside0.mk (blk_below (g := gb188) (o := .cells #[.int .i64 a0_0, .int .i64 a0_1, .int .i64 a0_2, .int .u64 a0_3, .int .u64 a0_4, .int .u64 a0_5] 37 (0, 0)) (by (with_reducible repeat (first | refine blk_drewN ?_ _ | refine blk_drew ?_ | refine blk_alloc ?_ _)); exact BK188.out) hb); have n1_ := Aside0.mk (below_step (by repeat (first | (with_reducible first | exact HB.out | apply below_alloc | apply pw_below_drewN | apply below_drew1 | refine below_set ?_ GE188.out) | exact HB.out)) hb); clear BK188; clear HB; have BK188 := n0_; have HB := n1_; clear n0_ n1_; (try clear hb); (try clear hb2); (try clear hk); (try clear hi)))
          have n0_ := Aside0.mk (blk_drew BK188.out)
          have n1_ := Aside0.mk (below_drew1 HB.out)
          clear BK188
          clear HB
          have BK188 := n0_
          have HB := n1_
          clear n0_ n1_
          refine start_ (n := 12) (S := fun w' => w'.cell? ⟨gb188, 0, none⟩ = some (.int .i64 a0_0) ∧ w'.cell? ⟨gb188, 1, none⟩ = some (.int .i64 a0_1) ∧ w'.cell? ⟨gb188, 2, none⟩ = some (.int .i64 a0_2) ∧ w'.cell? ⟨gb188, 3, none⟩ = some (.int .u64 a0_3) ∧ w'.cell? ⟨gb188, 4, none⟩ = some (.int .u64 a0_4) ∧ w'.cell? ⟨gb188, 5, none⟩ = some (.int .u64 a0_5)) (ds := []) #[false, false, false, false, false, false, false, false, false, false, false, false] (by kernel_rfl) rfl rfl ⟨(blk_cell BK188.out 0).trans rfl, (blk_cell BK188.out 1).trans rfl, (blk_cell BK188.out 2).trans rfl, (blk_cell BK188.out 3).trans rfl, (blk_cell BK188.out 4).trans rfl, (blk_cell BK188.out 5).trans rfl⟩ (fun hHeld => ?_); refine with_tabW spec_HashChildren.tab8 spec_HashChildren.bits8 (fun HT_ HW_ => ?_)
          generalize w29.drew = w30 at BK188 HB hHeld ⊢
          refine pure_ (i := 1) (N := some 31) (v := ?_) (a' := ?_) #[false, true, false, false, false, false, false, false, false, false, false, false] rfl rfl (any_of HT_.out (by kernel_rfl)) (fun _ _ _ h => h) (Or.inl ⟨by rfl, ?_⟩) ?_ ?_
          rotate_left
          · intro w'
            go_simp
            with_reducible rfl
          rotate_left
          · simp only [Act.put, List.setIfInBounds_toArray, List.set_cons_zero, List.set_cons_succ, i64_w, i32_w]
            rfl
          refine pure_ (i := 4) (N := some 34) (v := ?_) (a' := ?_) #[false, true, false, false, true, false, false, false, false, false, false, false] rfl rfl (any_of HT_.out (by kernel_rfl)) (fun _ _ _ h => h) (Or.inl ⟨by rfl, ?_⟩) ?_ ?_
          rotate_left
          · intro w'
            go_simp
            with_reducible rfl
          rotate_left
          · simp only [Act.put, List.setIfInBounds_toArray, List.set_cons_zero, List.set_cons_succ, i64_w, i32_w]
            rfl
          refine pure_ (i := 8) (N := some 38) (v := ?_) (a' := ?_) #[false, true, false, false, true, false, false, false, true, false, false, false] rfl rfl (any_of HT_.out (by kernel_rfl)) (fun _ _ _ h => h) (Or.inl ⟨by rfl, ?_⟩) ?_ ?_
          rotate_left
          · intro w'
            go_simp
            with_reducible rfl
          rotate_left
          · simp only [Act.put, List.setIfInBounds_toArray, List.set_cons_zero, List.set_cons_succ, i64_w, i32_w]
            rfl
          refine take_ (i := 0) (N := some 30) (v := ?_) (a' := ?_) #[true, true, false, false, true, false, false, false, true, false, false, false] rfl rfl (take_ofW HT_.out HW_.out (by kernel_rfl)) (fun _ _ _ h => h) (Or.inl ⟨by rfl, ?_⟩) hHeld ?_ ?_
          rotate_left
          · rintro w' ⟨s0, s1, s2, s3, s4, s5⟩
            go_simp
            with_reducible rfl
          rotate_left
          · simp only [Act.put, List.setIfInBounds_toArray, List.set_cons_zero, List.set_cons_succ, i64_w, i32_w]
            rfl
          refine take_ (i := 2) (N := some 32) (v := ?_) (a' := ?_) #[true, true, true, false, true, false, false, false, true, false, false, false] rfl rfl (take_ofW HT_.out HW_.out (by kernel_rfl)) (fun _ _ _ h => h) (Or.inl ⟨by rfl, ?_⟩) hHeld ?_ ?_
          rotate_left
          · rintro w' ⟨s0, s1, s2, s3, s4, s5⟩
            go_simp
            with_reducible rfl
          rotate_left
          · simp only [Act.put, List.setIfInBounds_toArray, List.set_cons_zero, List.set_cons_succ, i64_w, i32_w]
            rfl
          refine join_ (σ := Value × Value × Value) 4 #[true, true, true, true, true, true, true, false, true, false, false, false] (fun s_ => [(33, s_.1), (35, s_.2.1), (36, s_.2.2)]) (fun s_ w' => (w'.cell? ⟨gb188, 0, none⟩ = some (.int .i64 a0_0) ∧ w'.cell? ⟨gb188, 1, none⟩ = some (.int .i64 a0_1) ∧ w'.cell? ⟨gb188, 2, none⟩ = some (.int .i64 a0_2) ∧ w'.cell? ⟨gb188, 3, none⟩ = some (.int .u64 a0_3) ∧ w'.cell? ⟨gb188, 4, none⟩ = some (.int .u64 a0_4) ∧ w'.cell? ⟨gb188, 5, none⟩ = some (.int .u64 a0_5)) ∧ (Kd.R (Kd.int .u8) 5 w' w.heap.size (fun k_ => some k_ ≠ (s_.2.2 : Value).ownBlock) s_.2.1 y208) ∧ (Kd.R (Kd.int .u8) 5 w' w.heap.size (fun k_ => some k_ ≠ (s_.2.1 : Value).ownBlock) s_.2.2 y211) ∧ (w'.heap[gb188]? = some (.cells #[.int .i64 a0_0, .int .i64 a0_1, .int .i64 a0_2, .int .u64 a0_3, .int .u64 a0_4, .int .u64 a0_5] 37 (0, 0))) ∧ (Below w.heap.size w w')) ?_ ?_
          rotate_left
          · intro hCont
            refine two_ (i := 3) (j := 6) (Ni := some 33) (Nj := some 36) #[true, true, true, true, true, false, false, false, true, false, false, false] #[true, true, true, false, true, false, true, false, true, false, false, false] rfl rfl rfl rfl (two_of HT_.out (by kernel_rfl)) (by decide) (by decide) (fun K hK => ?_) (fun K hK => ?_)
            · skip
              refine Kd.R_lit_step (Kd.int .u8) _ 5 ?hg (N := 33) ?hd (xs := ([] : List Int)) (inner := []) (ok := fun _ => True) (okp := fun _ => True) ?hr ?hp (fun _ hk => hk) trivial (Below.refl _ _) (Nat.le_refl _) (by simp) ?_; (case hd => rfl); (case hg => rfl); (case hr => first | (go_simp; done) | (go_simp; rfl)); (case hp => exact (Reps.none _ _))
              intro v206 w31 ho32 hb hg_ hnew_
              clear hg_ hnew_
              (first | rw [← Ny205.out] at ho32 | (simp only [Int.reduceToNat] at ho32; rw [← Ny205.out] at ho32))
              have n0_ := Aside0.mk (Kd.R_lower ho32 (below_size (by repeat (first | (with_reducible first | exact HB.out | apply below_alloc | apply pw_below_drewN | apply below_drew1 | refine below_set ?_ GE188.out) | exact HB.out))))
              have n1_ := Aside0.mk (blk_below (g := gb188) (o := .cells #[.int .i64 a0_0, .int .i64 a0_1, .int .i64 a0_2, .int .u64 a0_3, .int .u64 a0_4, .int .u64 a0_5] 37 (0, 0)) (by (with_reducible repeat (first | refine blk_drewN ?_ _ | refine blk_drew ?_ | refine blk_alloc ?_ _)); exact BK188.out) hb)
              have n2_ := Aside0.mk (below_step (by repeat (first | (with_reducible first | exact HB.out | apply below_alloc | apply pw_below_drewN | apply below_drew1 | refine below_set ?_ GE188.out) | exact HB.out)) hb)
              clear BK188
              clear HB
              have HO207 := n0_
              have BK188 := n1_
              have HB := n2_
              clear n0_ n1_ n2_
              clear hb ho32
              refine hK.out _ _ ⟨(blk_cell BK188.out 0).trans rfl, (blk_cell BK188.out 1).trans rfl, (blk_cell BK188.out 2).trans rfl, (blk_cell BK188.out 3).trans rfl, (blk_cell BK188.out 4).trans rfl, (blk_cell BK188.out 5).trans rfl⟩ (fun hHeld => ?_)
              clear hK K
              refine norm_ (a' := ?_) ?_ ?_
              rotate_left
              · show Act.put _ (some 33) _ = _
                simp only [Act.put, List.setIfInBounds_toArray, List.set_cons_zero, List.set_cons_succ, i64_w, i32_w]
                rfl
              refine two_ (i := 5) (j := 6) (Ni := some 35) (Nj := some 36) #[true, true, true, true, true, true, false, false, true, false, false, false] #[true, true, true, true, true, false, true, false, true, false, false, false] rfl rfl rfl rfl (two_of HT_.out (by kernel_rfl)) (by decide) (by decide) (fun K hK => ?_) (fun K hK => ?_)
              · skip
                refine Kd.R_append_rows_step (Kd.int .u8) (w0 := w) w.heap.size (by rfl) (.tmp 33) (.tmp 34) 42 5 (.int .u8 0) 1 rfl Tryd.underlying42 info5 rfl (by decide) (by omega) v206 y205 l1 _ _ _ (fun _ => True) (fun _ => False) rfl rfl ?aO ?aR (fun _ _ h => h) (fun _ h => h.elim) ?aF ?aB ?aS ?aL ?_
                (case aR => repeat (first | exact (Kd.C_below HR1.out HB.out) | (with_reducible refine Kd.C_alloc ?_ _) | (with_reducible refine Kd.C_drewN ?_ _) | (with_reducible refine Kd.C_drew ?_)))
                (case aB => exact (by repeat (first | (with_reducible first | exact HB.out | apply below_alloc | apply pw_below_drewN | apply below_drew1 | refine below_set ?_ GE188.out) | exact HB.out)))
                (case aF => exact (fun _ _ => trivial))
                (case aO => exact (by (with_reducible repeat (first | apply Kd.R_alloc | apply Kd.R_drewN | apply Kd.R_drew)); exact HO207.out))
                (case aS => exact (below_size (by repeat (first | (with_reducible first | exact HB.out | apply below_alloc | apply pw_below_drewN | apply below_drew1 | refine below_set ?_ GE188.out) | exact HB.out))))
                (case aL => have := LMc23.out; omega)
                intro v209 w33 ho hb hg hat
                rw [← Ny208.out] at ho
                have n0_ := Aside0.mk (blk_grown (g := gb188) (o := .cells #[.int .i64 a0_0, .int .i64 a0_1, .int .i64 a0_2, .int .u64 a0_3, .int .u64 a0_4, .int .u64 a0_5] 37 (0, 0)) (by (with_reducible repeat (first | refine blk_drewN ?_ _ | refine blk_drew ?_ | refine blk_alloc ?_ _)); exact BK188.out) hg (Kd.R_ne HO207.out BK188.out (by decide)))
                have n1_ := Aside0.mk (hb)
                have n2_ := Aside0.mk (ho)
                clear BK188
                clear HB
                clear HO207
                have BK188 := n0_
                have HB := n1_
                have HO210 := n2_
                clear n0_ n1_ n2_
                clear ho hb hg hat
                refine hK.out _ _ ⟨(blk_cell BK188.out 0).trans rfl, (blk_cell BK188.out 1).trans rfl, (blk_cell BK188.out 2).trans rfl, (blk_cell BK188.out 3).trans rfl, (blk_cell BK188.out 4).trans rfl, (blk_cell BK188.out 5).trans rfl⟩ (fun hHeld => ?_)
                clear hK K
                refine norm_ (a' := ?_) ?_ ?_
                rotate_left
                · show Act.put _ (some 35) _ = _
                  simp only [Act.put, List.setIfInBounds_toArray, List.set_cons_zero, List.set_cons_succ, i64_w, i32_w]
                  rfl
                refine one_ (i := 6) (N := some 36) #[true, true, true, true, true, true, true, false, true, false, false, false] rfl rfl (one_of HT_.out (by kernel_rfl)) (by decide) (fun K hK => ?_)
                refine Kd.R_lit_step (Kd.int .u8) _ 5 ?hg (N := 36) ?hd (xs := ([255] : List Int)) (inner := [.int .u8 255]) (ok := fun _ => True) (okp := fun _ => True) ?hr ?hp (fun _ hk => hk) trivial (Below.refl _ _) (Nat.le_refl _) (by simp) ?_; (case hd => rfl); (case hg => rfl); (case hr => first | (go_simp; done) | (go_simp; rfl)); (case hp => exact (Reps.one (show Kd.M (Kd.int .u8) _ _ _ 255 [.int .u8 255] from rfl) (Reps.none _ _)))
                intro v212 w34 ho35 hb hg_ hnew_
                clear hg_ hnew_
                (first | rw [← Ny211.out] at ho35 | (simp only [Int.reduceToNat] at ho35; rw [← Ny211.out] at ho35))
                have n0_ := Aside0.mk (Kd.R_elder' (by (with_reducible repeat (first | apply Kd.R_alloc | apply Kd.R_drewN | apply Kd.R_drew)); exact HO210.out) (Kd.R_base ho35) hb)
                have n1_ := Aside0.mk (Kd.R_lower (Kd.R_new' ho35 (Kd.R_lt (by (with_reducible repeat (first | apply Kd.R_alloc | apply Kd.R_drewN | apply Kd.R_drew)); exact HO210.out))) (below_size (by repeat (first | (with_reducible first | exact HB.out | apply below_alloc | apply pw_below_drewN | apply below_drew1 | refine below_set ?_ GE188.out) | exact HB.out))))
                have n2_ := Aside0.mk (blk_below (g := gb188) (o := .cells #[.int .i64 a0_0, .int .i64 a0_1, .int .i64 a0_2, .int .u64 a0_3, .int .u64 a0_4, .int .u64 a0_5] 37 (0, 0)) (by (with_reducible repeat (first | refine blk_drewN ?_ _ | refine blk_drew ?_ | refine blk_alloc ?_ _)); exact BK188.out) hb)
                have n3_ := Aside0.mk (below_step (by repeat (first | (with_reducible first | exact HB.out | apply below_alloc | apply pw_below_drewN | apply below_drew1 | refine below_set ?_ GE188.out) | exact HB.out)) hb)
                clear HO210
                clear BK188
                clear HB
                have HO210 := n0_
                have HO213 := n1_
                have BK188 := n2_
                have HB := n3_
                clear n0_ n1_ n2_ n3_
                clear hb ho35
                refine hK.out _ _ ⟨(blk_cell BK188.out 0).trans rfl, (blk_cell BK188.out 1).trans rfl, (blk_cell BK188.out 2).trans rfl, (blk_cell BK188.out 3).trans rfl, (blk_cell BK188.out 4).trans rfl, (blk_cell BK188.out 5).trans rfl⟩ (fun hHeld => ?_)
                clear hK K
                refine norm_ (a' := ?_) ?_ ?_
                rotate_left
                · show Act.put _ (some 36) _ = _
                  simp only [Act.put, List.setIfInBounds_toArray, List.set_cons_zero, List.set_cons_succ, i64_w, i32_w]
                  rfl
                exact norm_ (by simp only [putAll, Act.put, List.setIfInBounds_toArray, List.set_cons_zero, List.set_cons_succ]) (hCont (v206, v209, v212) _ ⟨hHeld, (by (with_reducible repeat (first | apply Kd.R_alloc | apply Kd.R_drewN | apply Kd.R_drew)); exact Kd.R_mono HO210.out (fun _ hk => hk.2)), (by (with_reducible repeat (first | apply Kd.R_alloc | apply Kd.R_drewN | apply Kd.R_drew)); exact Kd.R_mono HO213.out (fun _ hk => hk.2)), (by (with_reducible repeat (first | refine blk_drewN ?_ _ | refine blk_drew ?_ | refine blk_alloc ?_ _)); exact BK188.out), (by repeat (first | (with_reducible first | exact HB.out | apply below_alloc | apply pw_below_drewN | apply below_drew1 | refine below_set ?_ GE188.out) | exact HB.out))⟩)
              · skip
                refine Kd.R_lit_step (Kd.int .u8) _ 5 ?hg (N := 36) ?hd (xs := ([255] : List Int)) (inner := [.int .u8 255]) (ok := fun _ => True) (okp := fun _ => True) ?hr ?hp (fun _ hk => hk) trivial (Below.refl _ _) (Nat.le_refl _) (by simp) ?_; (case hd => rfl); (case hg => rfl); (case hr => first | (go_simp; done) | (go_simp; rfl)); (case hp => exact (Reps.one (show Kd.M (Kd.int .u8) _ _ _ 255 [.int .u8 255] from rfl) (Reps.none _ _)))
                intro v212 w33 ho34 hb hg_ hnew_
                clear hg_ hnew_
                (first | rw [← Ny211.out] at ho34 | (simp only [Int.reduceToNat] at ho34; rw [← Ny211.out] at ho34))
                have n0_ := Aside0.mk (Kd.R_elder' (by (with_reducible repeat (first | apply Kd.R_alloc | apply Kd.R_drewN | apply Kd.R_drew)); exact HO207.out) (Kd.R_base ho34) hb)
                have n1_ := Aside0.mk (Kd.R_lower (Kd.R_new' ho34 (Kd.R_lt (by (with_reducible repeat (first | apply Kd.R_alloc | apply Kd.R_drewN | apply Kd.R_drew)); exact HO207.out))) (below_size (by repeat (first | (with_reducible first | exact HB.out | apply below_alloc | apply pw_below_drewN | apply below_drew1 | refine below_set ?_ GE188.out) | exact HB.out))))
                have n2_ := Aside0.mk (blk_below (g := gb188) (o := .cells #[.int .i64 a0_0, .int .i64 a0_1, .int .i64 a0_2, .int .u64 a0_3, .int .u64 a0_4, .int .u64 a0_5] 37 (0, 0)) (by (with_reducible repeat (first | refine blk_drewN ?_ _ | refine blk_drew ?_ | refine blk_alloc ?_ _)); exact BK188.out) hb)
                have n3_ := Aside0.mk (below_step (by repeat (first | (with_reducible first | exact HB.out | apply below_alloc | apply pw_below_drewN | apply below_drew1 | refine below_set ?_ GE188.out) | exact HB.out)) hb)
                clear HO207
                clear BK188
                clear HB
                have HO207 := n0_
                have HO213 := n1_
                have BK188 := n2_
                have HB := n3_
                clear n0_ n1_ n2_ n3_
                clear hb ho34
                refine hK.out _ _ ⟨(blk_cell BK188.out 0).trans rfl, (blk_cell BK188.out 1).trans rfl, (blk_cell BK188.out 2).trans rfl, (blk_cell BK188.out 3).trans rfl, (blk_cell BK188.out 4).trans rfl, (blk_cell BK188.out 5).trans rfl⟩ (fun hHeld => ?_)
                clear hK K
                refine norm_ (a' := ?_) ?_ ?_
                rotate_left
                · show Act.put _ (some 36) _ = _
                  simp only [Act.put, List.setIfInBounds_toArray, List.set_cons_zero, List.set_cons_succ, i64_w, i32_w]
                  rfl
                refine one_ (i := 5) (N := some 35) #[true, true, true, true, true, true, true, false, true, false, false, false] rfl rfl (one_of HT_.out (by kernel_rfl)) (by decide) (fun K hK => ?_)
                refine Kd.R_append_rows_step (Kd.int .u8) (w0 := w) w.heap.size (by rfl) (.tmp 33) (.tmp 34) 42 5 (.int .u8 0) 1 rfl Tryd.underlying42 info5 rfl (by decide) (by omega) v206 y205 l1 _ _ _ (fun k_ => some k_ ≠ (v212 : Value).ownBlock) (fun _ => False) rfl rfl ?aO ?aR (fun _ _ h => h) (fun _ h => h.elim) ?aF ?aB ?aS ?aL ?_
                (case aR => repeat (first | exact (Kd.C_below HR1.out HB.out) | (with_reducible refine Kd.C_alloc ?_ _) | (with_reducible refine Kd.C_drewN ?_ _) | (with_reducible refine Kd.C_drew ?_)))
                (case aB => exact (by repeat (first | (with_reducible first | exact HB.out | apply below_alloc | apply pw_below_drewN | apply below_drew1 | refine below_set ?_ GE188.out) | exact HB.out)))
                (case aF => exact (fun k_ hk => Kd.fresh' (Kd.R_lt (by (with_reducible repeat (first | apply Kd.R_alloc | apply Kd.R_drewN | apply Kd.R_drew)); exact HO213.out)) k_ hk))
                (case aO => exact (by (with_reducible repeat (first | apply Kd.R_alloc | apply Kd.R_drewN | apply Kd.R_drew)); exact Kd.R_mono HO207.out (fun _ hk => hk.2)))
                (case aS => exact (below_size (by repeat (first | (with_reducible first | exact HB.out | apply below_alloc | apply pw_below_drewN | apply below_drew1 | refine below_set ?_ GE188.out) | exact HB.out))))
                (case aL => have := LMc23.out; omega)
                intro v209 w35 ho hb hg hat
                rw [← Ny208.out] at ho
                have n0_ := Aside0.mk (blk_grown (g := gb188) (o := .cells #[.int .i64 a0_0, .int .i64 a0_1, .int .i64 a0_2, .int .u64 a0_3, .int .u64 a0_4, .int .u64 a0_5] 37 (0, 0)) (by (with_reducible repeat (first | refine blk_drewN ?_ _ | refine blk_drew ?_ | refine blk_alloc ?_ _)); exact BK188.out) hg (Kd.R_ne HO207.out BK188.out (by decide)))
                have n1_ := Aside0.mk (Kd.R_after (ok := (fun _ => True)) (by (with_reducible repeat (first | apply Kd.R_alloc | apply Kd.R_drewN | apply Kd.R_drew)); exact HO213.out) hg hat)
                have n2_ := Aside0.mk (hb)
                have n3_ := Aside0.mk (ho)
                clear BK188
                clear HO213
                clear HB
                clear HO207
                have BK188 := n0_
                have HO213 := n1_
                have HB := n2_
                have HO210 := n3_
                clear n0_ n1_ n2_ n3_
                clear ho hb hg hat
                refine hK.out _ _ ⟨(blk_cell BK188.out 0).trans rfl, (blk_cell BK188.out 1).trans rfl, (blk_cell BK188.out 2).trans rfl, (blk_cell BK188.out 3).trans rfl, (blk_cell BK188.out 4).trans rfl, (blk_cell BK188.out 5).trans rfl⟩ (fun hHeld => ?_)
                clear hK K
                refine norm_ (a' := ?_) ?_ ?_
                rotate_left
                · show Act.put _ (some 35) _ = _
                  simp only [Act.put, List.setIfInBounds_toArray, List.set_cons_zero, List.set_cons_succ, i64_w, i32_w]
                  rfl
                exact norm_ (by simp only [putAll, Act.put, List.setIfInBounds_toArray, List.set_cons_zero, List.set_cons_succ]) (hCont (v206, v209, v212) _ ⟨hHeld, (by (with_reducible repeat (first | apply Kd.R_alloc | apply Kd.R_drewN | apply Kd.R_drew)); exact HO210.out), (by (with_reducible repeat (first | apply Kd.R_alloc | apply Kd.R_drewN | apply Kd.R_drew)); exact Kd.R_mono HO213.out (fun _ hk => hk.2)), (by (with_reducible repeat (first | refine blk_drewN ?_ _ | refine blk_drew ?_ | refine blk_alloc ?_ _)); exact BK188.out), (by repeat (first | (with_reducible first | exact HB.out | apply below_alloc | apply pw_below_drewN | apply below_drew1 | refine below_set ?_ GE188.out) | exact HB.out))⟩)
            · skip
              refine Kd.R_lit_step (Kd.int .u8) _ 5 ?hg (N := 36) ?hd (xs := ([255] : List Int)) (inner := [.int .u8 255]) (ok := fun _ => True) (okp := fun _ => True) ?hr ?hp (fun _ hk => hk) trivial (Below.refl _ _) (Nat.le_refl _) (by simp) ?_; (case hd => rfl); (case hg => rfl); (case hr => first | (go_simp; done) | (go_simp; rfl)); (case hp => exact (Reps.one (show Kd.M (Kd.int .u8) _ _ _ 255 [.int .u8 255] from rfl) (Reps.none _ _)))
              intro v212 w31 ho32 hb hg_ hnew_
              clear hg_ hnew_
              (first | rw [← Ny211.out] at ho32 | (simp only [Int.reduceToNat] at ho32; rw [← Ny211.out] at ho32))
              have n0_ := Aside0.mk (Kd.R_lower ho32 (below_size (by repeat (first | (with_reducible first | exact HB.out | apply below_alloc | apply pw_below_drewN | apply below_drew1 | refine below_set ?_ GE188.out) | exact HB.out))))
              have n1_ := Aside0.mk (blk_below (g := gb188) (o := .cells #[.int .i64 a0_0, .int .i64 a0_1, .int .i64 a0_2, .int .u64 a0_3, .int .u64 a0_4, .int .u64 a0_5] 37 (0, 0)) (by (with_reducible repeat (first | refine blk_drewN ?_ _ | refine blk_drew ?_ | refine blk_alloc ?_ _)); exact BK188.out) hb)
              have n2_ := Aside0.mk (below_step (by repeat (first | (with_reducible first | exact HB.out | apply below_alloc | apply pw_below_drewN | apply below_drew1 | refine below_set ?_ GE188.out) | exact HB.out)) hb)
              clear BK188
              clear HB
              have HO213 := n0_
              have BK188 := n1_
              have HB := n2_
              clear n0_ n1_ n2_
              clear hb ho32
              refine hK.out _ _ ⟨(blk_cell BK188.out 0).trans rfl, (blk_cell BK188.out 1).trans rfl, (blk_cell BK188.out 2).trans rfl, (blk_cell BK188.out 3).trans rfl, (blk_cell BK188.out 4).trans rfl, (blk_cell BK188.out 5).trans rfl⟩ (fun hHeld => ?_)
              clear hK K
              refine norm_ (a' := ?_) ?_ ?_
              rotate_left
              · show Act.put _ (some 36) _ = _
                simp only [Act.put, List.setIfInBounds_toArray, List.set_cons_zero, List.set_cons_succ, i64_w, i32_w]
                rfl
              refine one_ (i := 3) (N := some 33) #[true, true, true, true, true, false, true, false, true, false, false, false] rfl rfl (one_of HT_.out (by kernel_rfl)) (by decide) (fun K hK => ?_)
              refine Kd.R_lit_step (Kd.int .u8) _ 5 ?hg (N := 33) ?hd (xs := ([] : List Int)) (inner := []) (ok := fun _ => True) (okp := fun _ => True) ?hr ?hp (fun _ hk => hk) trivial (Below.refl _ _) (Nat.le_refl _) (by simp) ?_; (case hd => rfl); (case hg => rfl); (case hr => first | (go_simp; done) | (go_simp; rfl)); (case hp => exact (Reps.none _ _))
              intro v206 w33 ho34 hb hg_ hnew_
              clear hg_ hnew_
              (first | rw [← Ny205.out] at ho34 | (simp only [Int.reduceToNat] at ho34; rw [← Ny205.out] at ho34))
              have n0_ := Aside0.mk (Kd.R_elder' (by (with_reducible repeat (first | apply Kd.R_alloc | apply Kd.R_drewN | apply Kd.R_drew)); exact HO213.out) (Kd.R_base ho34) hb)
              have n1_ := Aside0.mk (Kd.R_lower (Kd.R_new' ho34 (Kd.R_lt (by (with_reducible repeat (first | apply Kd.R_alloc | apply Kd.R_drewN | apply Kd.R_drew)); exact HO213.out))) (below_size (by repeat (first | (with_reducible first | exact HB.out | apply below_alloc | apply pw_below_drewN | apply below_drew1 | refine below_set ?_ GE188.out) | exact HB.out))))
              have n2_ := Aside0.mk (blk_below (g := gb188) (o := .cells #[.int .i64 a0_0, .int .i64 a0_1, .int .i64 a0_2, .int .u64 a0_3, .int .u64 a0_4, .int .u64 a0_5] 37 (0, 0)) (by (with_reducible repeat (first | refine blk_drewN ?_ _ | refine blk_drew ?_ | refine blk_alloc ?_ _)); exact BK188.out) hb)
              have n3_ := Aside0.mk (below_step (by repeat (first | (with_reducible first | exact HB.out | apply below_alloc | apply pw_below_drewN | apply below_drew1 | refine below_set ?_ GE188.out) | exact HB.out)) hb)
              clear HO213
              clear BK188
              clear HB
              have HO213 := n0_
              have HO207 := n1_
              have BK188 := n2_
              have HB := n3_
              clear n0_ n1_ n2_ n3_
              clear hb ho34
              refine hK.out _ _ ⟨(blk_cell BK188.out 0).trans rfl, (blk_cell BK188.out 1).trans rfl, (blk_cell BK188.out 2).trans rfl, (blk_cell BK188.out 3).trans rfl, (blk_cell BK188.out 4).trans rfl, (blk_cell BK188.out 5).trans rfl⟩ (fun hHeld => ?_)
              clear hK K
              refine norm_ (a' := ?_) ?_ ?_
              rotate_left
              · show Act.put _ (some 33) _ = _
                simp only [Act.put, List.setIfInBounds_toArray, List.set_cons_zero, List.set_cons_succ, i64_w, i32_w]
                rfl
              refine one_ (i := 5) (N := some 35) #[true, true, true, true, true, true, true, false, true, false, false, false] rfl rfl (one_of HT_.out (by kernel_rfl)) (by decide) (fun K hK => ?_)
              refine Kd.R_append_rows_step (Kd.int .u8) (w0 := w) w.heap.size (by rfl) (.tmp 33) (.tmp 34) 42 5 (.int .u8 0) 1 rfl Tryd.underlying42 info5 rfl (by decide) (by omega) v206 y205 l1 _ _ _ (fun k_ => some k_ ≠ (v212 : Value).ownBlock) (fun _ => False) rfl rfl ?aO ?aR (fun _ _ h => h) (fun _ h => h.elim) ?aF ?aB ?aS ?aL ?_
              (case aR => repeat (first | exact (Kd.C_below HR1.out HB.out) | (with_reducible refine Kd.C_alloc ?_ _) | (with_reducible refine Kd.C_drewN ?_ _) | (with_reducible refine Kd.C_drew ?_)))
              (case aB => exact (by repeat (first | (with_reducible first | exact HB.out | apply below_alloc | apply pw_below_drewN | apply below_drew1 | refine below_set ?_ GE188.out) | exact HB.out)))
              (case aF => exact (fun k_ hk => Kd.fresh' (Kd.R_lt (by (with_reducible repeat (first | apply Kd.R_alloc | apply Kd.R_drewN | apply Kd.R_drew)); exact HO213.out)) k_ hk))
              (case aO => exact (by (with_reducible repeat (first | apply Kd.R_alloc | apply Kd.R_drewN | apply Kd.R_drew)); exact Kd.R_mono HO207.out (fun _ hk => hk.2)))
              (case aS => exact (below_size (by repeat (first | (with_reducible first | exact HB.out | apply below_alloc | apply pw_below_drewN | apply below_drew1 | refine below_set ?_ GE188.out) | exact HB.out))))
              (case aL => have := LMc23.out; omega)
              intro v209 w35 ho hb hg hat
              rw [← Ny208.out] at ho
              have n0_ := Aside0.mk (blk_grown (g := gb188) (o := .cells #[.int .i64 a0_0, .int .i64 a0_1, .int .i64 a0_2, .int .u64 a0_3, .int .u64 a0_4, .int .u64 a0_5] 37 (0, 0)) (by (with_reducible repeat (first | refine blk_drewN ?_ _ | refine blk_drew ?_ | refine blk_alloc ?_ _)); exact BK188.out) hg (Kd.R_ne HO207.out BK188.out (by decide)))
              have n1_ := Aside0.mk (Kd.R_after (ok := (fun _ => True)) (by (with_reducible repeat (first | apply Kd.R_alloc | apply Kd.R_drewN | apply Kd.R_drew)); exact HO213.out) hg hat)
              have n2_ := Aside0.mk (hb)
              have n3_ := Aside0.mk (ho)
              clear BK188
              clear HO213
              clear HB
              clear HO207
              have BK188 := n0_
              have HO213 := n1_
              have HB := n2_
              have HO210 := n3_
              clear n0_ n1_ n2_ n3_
              clear ho hb hg hat
              refine hK.out _ _ ⟨(blk_cell BK188.out 0).trans rfl, (blk_cell BK188.out 1).trans rfl, (blk_cell BK188.out 2).trans rfl, (blk_cell BK188.out 3).trans rfl, (blk_cell BK188.out 4).trans rfl, (blk_cell BK188.out 5).trans rfl⟩ (fun hHeld => ?_)
              clear hK K
              refine norm_ (a' := ?_) ?_ ?_
              rotate_left
              · show Act.put _ (some 35) _ = _
                simp only [Act.put, List.setIfInBounds_toArray, List.set_cons_zero, List.set_cons_succ, i64_w, i32_w]
                rfl
              exact norm_ (by simp only [putAll, Act.put, List.setIfInBounds_toArray, List.set_cons_zero, List.set_cons_succ]) (hCont (v206, v209, v212) _ ⟨hHeld, (by (with_reducible repeat (first | apply Kd.R_alloc | apply Kd.R_drewN | apply Kd.R_drew)); exact HO210.out), (by (with_reducible repeat (first | apply Kd.R_alloc | apply Kd.R_drewN | apply Kd.R_drew)); exact Kd.R_mono HO213.out (fun _ hk => hk.2)), (by (with_reducible repeat (first | refine blk_drewN ?_ _ | refine blk_drew ?_ | refine blk_alloc ?_ _)); exact BK188.out), (by repeat (first | (with_reducible first | exact HB.out | apply below_alloc | apply pw_below_drewN | apply below_drew1 | refine below_set ?_ GE188.out) | exact HB.out))⟩)
          rintro ⟨v206, v209, v212⟩ w36 ⟨hS_, h0_, h1_, h2_, h3_⟩
          have n0_ : Aside0 (Kd.R (Kd.int .u8) 5 w36 w.heap.size (fun k_ => some k_ ≠ (v212 : Value).ownBlock) v209 y208) := ⟨h0_⟩
          have n1_ : Aside0 (Kd.R (Kd.int .u8) 5 w36 w.heap.size (fun k_ => some k_ ≠ (v209 : Value).ownBlock) v212 y211) := ⟨h1_⟩
          have n2_ : Aside0 (w36.heap[gb188]? = some (.cells #[.int .i64 a0_0, .int .i64 a0_1, .int .i64 a0_2, .int .u64 a0_3, .int .u64 a0_4, .int .u64 a0_5] 37 (0, 0))) := ⟨h2_⟩
          have n3_ : Aside0 (Below w.heap.size w w36) := ⟨h3_⟩
          clear BK188
          clear HB
          clear h0_ h1_ h2_ h3_
          have HO210 := n0_
          have HO213 := n1_
          have BK188 := n2_
          have HB := n3_
          clear n0_ n1_ n2_ n3_
          have hHeld : w36.cell? ⟨gb188, 0, none⟩ = some (.int .i64 a0_0) ∧ w36.cell? ⟨gb188, 1, none⟩ = some (.int .i64 a0_1) ∧ w36.cell? ⟨gb188, 2, none⟩ = some (.int .i64 a0_2) ∧ w36.cell? ⟨gb188, 3, none⟩ = some (.int .u64 a0_3) ∧ w36.cell? ⟨gb188, 4, none⟩ = some (.int .u64 a0_4) ∧ w36.cell? ⟨gb188, 5, none⟩ = some (.int .u64 a0_5) := hS_
          obtain ⟨Ao38, co38, eo38⟩ := Kd.R_slice HO213.out
          (first | subst eo38 | (injection eo38 with f1_ f2_ f3_; have f4_ := f1_.symm; have f5_ := f3_.symm; clear f1_ f2_ f3_; subst f4_; subst f5_))
          refine norm_ (a' := ?_) ?_ ?_
          rotate_left
          · simp only [putAll, Act.put, List.setIfInBounds_toArray, List.set_cons_zero, List.set_cons_succ]
            rfl
          refine one_ (i := 7) (N := some 37) #[true, true, true, true, true, true, true, true, true, false, false, false] rfl rfl (one_of HT_.out (by kernel_rfl)) (by decide) (fun K hK => ?_)
          refine Kd.R_append_rows_step (Kd.int .u8) (w0 := w) w.heap.size (by rfl) (.tmp 35) (.tmp 36) 42 5 (.int .u8 0) 1 rfl Tryd.underlying42 info5 rfl (by decide) (by omega) v209 y208 y211 _ _ _ (fun k_ => some k_ ≠ (.slice Ao38 y211.length co38 : Value).ownBlock) (fun _ => False) rfl rfl ?aO ?aR (fun _ _ h => h) (fun _ h => h.elim) ?aF ?aB ?aS ?aL ?_
          (case aR => repeat (first | exact (Kd.R_reads' HO213.out).2.2 | (with_reducible refine Kd.C_alloc ?_ _) | (with_reducible refine Kd.C_drewN ?_ _) | (with_reducible refine Kd.C_drew ?_)))
          (case aB => exact (by repeat (first | (with_reducible first | exact HB.out | apply below_alloc | apply pw_below_drewN | apply below_drew1 | refine below_set ?_ GE188.out) | exact HB.out)))
          (case aF => exact (fun k_ hk => Kd.fresh' (Kd.R_lt (by (with_reducible repeat (first | apply Kd.R_alloc | apply Kd.R_drewN | apply Kd.R_drew)); exact HO213.out)) k_ hk))
          (case aO => exact (by (with_reducible repeat (first | apply Kd.R_alloc | apply Kd.R_drewN | apply Kd.R_drew)); exact HO210.out))
          (case aS => exact (below_size (by repeat (first | (with_reducible first | exact HB.out | apply below_alloc | apply pw_below_drewN | apply below_drew1 | refine below_set ?_ GE188.out) | exact HB.out))))
          (case aL => have := LMc24.out; omega)
          intro v215 w37 ho hb hg hat
          rw [← Ny214.out] at ho
          have n0_ := Aside0.mk (blk_grown (g := gb188) (o := .cells #[.int .i64 a0_0, .int .i64 a0_1, .int .i64 a0_2, .int .u64 a0_3, .int .u64 a0_4, .int .u64 a0_5] 37 (0, 0)) (by (with_reducible repeat (first | refine blk_drewN ?_ _ | refine blk_drew ?_ | refine blk_alloc ?_ _)); exact BK188.out) hg (Kd.R_ne HO210.out BK188.out (by decide)))
          have n1_ := Aside0.mk (Kd.R_after (ok := (fun _ => True)) (by (with_reducible repeat (first | apply Kd.R_alloc | apply Kd.R_drewN | apply Kd.R_drew)); exact Kd.R_mono HO213.out (fun _ hk => ⟨trivial, hk⟩)) hg hat)
          have n2_ := Aside0.mk (hb)
          have n3_ := Aside0.mk (ho)
          clear BK188
          clear HO213
          clear HB
          clear HO210
          have BK188 := n0_
          have HO213 := n1_
          have HB := n2_
          have HO216 := n3_
          clear n0_ n1_ n2_ n3_
          clear ho hb hg hat
          refine hK.out _ _ ⟨(blk_cell BK188.out 0).trans rfl, (blk_cell BK188.out 1).trans rfl, (blk_cell BK188.out 2).trans rfl, (blk_cell BK188.out 3).trans rfl, (blk_cell BK188.out 4).trans rfl, (blk_cell BK188.out 5).trans rfl⟩ (fun hHeld => ?_)
          clear hK K
          refine norm_ (a' := ?_) ?_ ?_
          rotate_left
          · show Act.put _ (some 37) _ = _
            simp only [Act.put, List.setIfInBounds_toArray, List.set_cons_zero, List.set_cons_succ, i64_w, i32_w]
            rfl
          refine one_ (i := 9) (N := some 39) #[true, true, true, true, true, true, true, true, true, true, false, false] rfl rfl (one_of HT_.out (by kernel_rfl)) (by decide) (fun K hK => ?_)
          refine Kd.R_append_rows_step (Kd.int .u8) (w0 := w) w.heap.size (by rfl) (.tmp 37) (.tmp 38) 42 5 (.int .u8 0) 1 rfl Tryd.underlying42 info5 rfl (by decide) (by omega) v215 y214 l2 _ _ _ (fun k_ => some k_ ≠ (.slice Ao38 y211.length co38 : Value).ownBlock) (fun _ => False) rfl rfl ?aO ?aR (fun _ _ h => h) (fun _ h => h.elim) ?aF ?aB ?aS ?aL ?_
          (case aR => repeat (first | exact (Kd.C_below HR2.out HB.out) | (with_reducible refine Kd.C_alloc ?_ _) | (with_reducible refine Kd.C_drewN ?_ _) | (with_reducible refine Kd.C_drew ?_)))
          (case aB => exact (by repeat (first | (with_reducible first | exact HB.out | apply below_alloc | apply pw_below_drewN | apply below_drew1 | refine below_set ?_ GE188.out) | exact HB.out)))
          (case aF => exact (fun k_ hk => Kd.fresh' (Kd.R_lt (by (with_reducible repeat (first | apply Kd.R_alloc | apply Kd.R_drewN | apply Kd.R_drew)); exact HO213.out)) k_ hk))
          (case aO => exact (by (with_reducible repeat (first | apply Kd.R_alloc | apply Kd.R_drewN | apply Kd.R_drew)); exact HO216.out))
          (case aS => exact (below_size (by repeat (first | (with_reducible first | exact HB.out | apply below_alloc | apply pw_below_drewN | apply below_drew1 | refine below_set ?_ GE188.out) | exact HB.out))))
          (case aL => have := LMc25.out; omega)
          intro v218 w39 ho hb hg hat
          rw [← Ny217.out] at ho
          have n0_ := Aside0.mk (blk_grown (g := gb188) (o := .cells #[.int .i64 a0_0, .int .i64 a0_1, .int .i64 a0_2, .int .u64 a0_3, .int .u64 a0_4, .int .u64 a0_5] 37 (0, 0)) (by (with_reducible repeat (first | refine blk_drewN ?_ _ | refine blk_drew ?_ | refine blk_alloc ?_ _)); exact BK188.out) hg (Kd.R_ne HO216.out BK188.out (by decide)))
          have n1_ := Aside0.mk (Kd.R_after (ok := (fun _ => True)) (by (with_reducible repeat (first | apply Kd.R_alloc | apply Kd.R_drewN | apply Kd.R_drew)); exact HO213.out) hg hat)
          have n2_ := Aside0.mk (hb)
          have n3_ := Aside0.mk (ho)
          clear BK188
          clear HO213
          clear HB
          clear HO216
          have BK188 := n0_
          have HO213 := n1_
          have HB := n2_
          have HO219 := n3_
          clear n0_ n1_ n2_ n3_
          clear ho hb hg hat
          obtain ⟨Ao40, co40, eo40⟩ := Kd.R_slice HO219.out
          (first | subst eo40 | (injection eo40 with f1_ f2_ f3_; have f4_ := f1_.symm; have f5_ := f3_.symm; clear f1_ f2_ f3_; subst f4_; subst f5_))
          refine hK.out _ _ ⟨(blk_cell BK188.out 0).trans rfl, (blk_cell BK188.out 1).trans rfl, (blk_cell BK188.out 2).trans rfl, (blk_cell BK188.out 3).trans rfl, (blk_cell BK188.out 4).trans rfl, (blk_cell BK188.out 5).trans rfl⟩ (fun hHeld => ?_)
          clear hK K
          refine norm_ (a' := ?_) ?_ ?_
          rotate_left
          · show Act.put _ (some 39) _ = _
            simp only [Act.put, List.setIfInBounds_toArray, List.set_cons_zero, List.set_cons_succ, i64_w, i32_w]
            rfl
          refine one_ (i := 10) (N := some 40) #[true, true, true, true, true, true, true, true, true, true, true, false] rfl rfl (one_of HT_.out (by kernel_rfl)) (by decide) (fun K hK => ?_)
          refine goes_ Tryd.func78 (by kernel_rfl) rfl #[.agg #[.int .i64 a0_0, .int .i64 a0_1, .int .i64 a0_2, .int .u64 a0_3, .int .u64 a0_4, .int .u64 a0_5], .int .u64 a0_5, .slice Ao40 y217.length co40] (by rfl) rfl rfl (by (try simp only [List.map_toArray, List.map_cons, List.map_nil]); first | done | rfl | (simp only [List.length_drop, List.length_take]; rfl)) ?_
          with_reducible refine (spec_word.calls k a0_0 a0_1 a0_2 a0_3 a0_4 a0_5 a0_5 _ _ y217 t220 _ ?side1 ?side2 A26.out).mono ?_
          (case side1 => repeat (first | exact (Kd.R_reads' HO219.out).2.2 | (with_reducible refine Kd.C_alloc ?_ _) | (with_reducible refine Kd.C_drewN ?_ _) | (with_reducible refine Kd.C_drew ?_)))
          (case side2 => exact (Kd.R_reads' HO219.out).2.1)
          rintro e w41 ⟨v221, rfl, ho0, hb⟩
          refine ⟨_, rfl, ?_⟩
          have n0_ := Aside0.mk (Kd.R_elder' (by (with_reducible repeat (first | apply Kd.R_alloc | apply Kd.R_drewN | apply Kd.R_drew)); exact HO213.out) (Kd.R_base ho0) hb)
          have n1_ := Aside0.mk (Kd.R_elder' (by (with_reducible repeat (first | apply Kd.R_alloc | apply Kd.R_drewN | apply Kd.R_drew)); exact HO219.out) (Kd.R_base ho0) hb)
          have n2_ := Aside0.mk (Kd.R_lower (Kd.R_new' (Kd.R_new' ho0 (Kd.R_lt (by (with_reducible repeat (first | apply Kd.R_alloc | apply Kd.R_drewN | apply Kd.R_drew)); exact HO213.out))) (Kd.R_lt (by (with_reducible repeat (first | apply Kd.R_alloc | apply Kd.R_drewN | apply Kd.R_drew)); exact HO219.out))) (below_size (by repeat (first | (with_reducible first | exact HB.out | apply below_alloc | apply pw_below_drewN | apply below_drew1 | refine below_set ?_ GE188.out) | exact HB.out))))
          have n3_ := Aside0.mk (blk_below (g := gb188) (o := .cells #[.int .i64 a0_0, .int .i64 a0_1, .int .i64 a0_2, .int .u64 a0_3, .int .u64 a0_4, .int .u64 a0_5] 37 (0, 0)) (by (with_reducible repeat (first | refine blk_drewN ?_ _ | refine blk_drew ?_ | refine blk_alloc ?_ _)); exact BK188.out) hb)
          have n4_ := Aside0.mk (below_step (by repeat (first | (with_reducible first | exact HB.out | apply below_alloc | apply pw_below_drewN | apply below_drew1 | refine below_set ?_ GE188.out) | exact HB.out)) hb)
          clear HO213
          clear HO219
          clear BK188
          clear HB
          have HO213 := n0_
          have HO219 := n1_
          have HO222 := n2_
          have BK188 := n3_
          have HB := n4_
          clear n0_ n1_ n2_ n3_ n4_
          (try clear hb)
          (try clear hb2)
          (try clear hk)
          (try clear hi)
          (try clear ho0)
          refine hK.out _ _ ⟨(blk_cell BK188.out 0).trans rfl, (blk_cell BK188.out 1).trans rfl, (blk_cell BK188.out 2).trans rfl, (blk_cell BK188.out 3).trans rfl, (blk_cell BK188.out 4).trans rfl, (blk_cell BK188.out 5).trans rfl⟩ (fun hHeld => ?_)
          clear hK K
          refine norm_ (a' := ?_) ?_ ?_
          rotate_left
          · show Act.put _ (some 40) _ = _
            simp only [Act.put, List.setIfInBounds_toArray, List.set_cons_zero, List.set_cons_succ, i64_w, i32_w]
            rfl
          refine pure_ (i := 11) (N := some 6) (v := ?_) (a' := ?_) #[true, true, true, true, true, true, true, true, true, true, true, true] rfl rfl (any_of HT_.out (by kernel_rfl)) (fun _ _ _ h => h) (Or.inl ⟨by rfl, ?_⟩) ?_ ?_
          rotate_left
          · intro w'
            go_simp
            with_reducible rfl
          rotate_left
          · simp only [Act.put, List.setIfInBounds_toArray, List.set_cons_zero, List.set_cons_succ, i64_w, i32_w]
            rfl
          refine done_ (done_of HT_.out (by kernel_rfl)) ?_
          try go_wp2
          go_ret
          exact ⟨_, by first | rfl | (simp [errW_none, errW_some] <;> rfl) | (simp [*, errW_none, errW_some] <;> rfl), by (with_reducible repeat (first | apply Kd.R_alloc | apply Kd.R_drewN | apply Kd.R_drew)); exact Kd.R_mono HO222.out (fun _ hk => trivial), by repeat (first | (with_reducible first | exact HB.out | apply below_alloc | apply pw_below_drewN | apply below_drew1 | refine below_set ?_ GE188.out) | exact HB.out)⟩
        · rw [if_neg c25] at H
          exact absurd H (by simp)
      · rw [if_neg c24] at H
        exact absurd H (by simp)
    · rw [if_neg c23] at H
      exact absurd H (by simp)
def spec_Covering.l0 : Nat → Int → Int → Int → Int → Option (Int × Int)
  | 0, _, _, _, _ => none
  | k + 1, x224000, x224001, x226000, x226001 => if x226000 < 64 then (if 0 ≤ x226000 then (if (shr .u64 (IntKind.u64.wrap ((IntKind.u64.wrap (x224001 - x224000)) - 1)) x226000) > 0 then (spec_Covering.l0 k x224000 x224001 (IntKind.u64.wrap (x226000 + 1)) x226001) else (some (x226000, shr .u64 x224000 x226000))) else (none)) else (if 0 ≤ x226000 then (some (x226000, shr .u64 x224000 x226000)) else (none))
def spec_Covering.f (k : Nat) (a0_0 : Int) (a0_1 : Int) : Option (Int × Int) := spec_Covering.l0 k a0_0 a0_1 0 0
theorem spec_Covering.mono_l : ∀ k, (∀ y0 y1 y2 y3, LeO (spec_Covering.l0 k y0 y1 y2 y3) (spec_Covering.l0 (k + 1) y0 y1 y2 y3))
  | 0 => fun _ _ _ _ r h => by simp [spec_Covering.l0] at h
  | k + 1 => by
    have ih0 := spec_Covering.mono_l k
    · intro y0 y1 y2 y3
      unfold spec_Covering.l0
      repeat' first
      | (with_reducible exact ih0 _ _ _ _)
      | (with_reducible exact LeO.refl _)
      | (with_reducible exact LeO.none _)
      | (with_reducible refine LeO.ite ?_ ?_)
      | (with_reducible refine LeO.bind ?_ (fun _ => ?_))
      | exact ih0 _ _ _ _
      | exact LeO.none _
      | refine LeO.ite ?_ ?_
      | refine LeO.bind ?_ (fun _ => ?_)
theorem spec_Covering.mono : ∀ a0 a1 k, LeO (spec_Covering.f k a0 a1) (spec_Covering.f (k + 1) a0 a1) := by
  intro a0 a1 k
  have ih0 := spec_Covering.mono_l k
  unfold spec_Covering.f
  repeat' first
      | (with_reducible exact ih0 _ _ _ _)
      | (with_reducible exact LeO.refl _)
      | (with_reducible exact LeO.none _)
      | (with_reducible refine LeO.ite ?_ ?_)
      | (with_reducible refine LeO.bind ?_ (fun _ => ?_))
      | exact ih0 _ _ _ _
      | exact LeO.none _
      | refine LeO.ite ?_ ?_
      | refine LeO.bind ?_ (fun _ => ?_)
set_option maxHeartbeats 8000000 in
set_option maxRecDepth 100000 in
theorem spec_Covering.calls (k : Nat) (a0_0 : Int) (a0_1 : Int) (r1 : Int) (r2 : Int) (w : World) (h : spec_Covering.f k a0_0 a0_1 = some (r1, r2)) :
    Calls Tryd.prog 76 #[.agg #[.int .u64 a0_0, .int .u64 a0_1]] w fun e w' => e = .returned (.agg #[.int .u64 r1, .int .u64 r2]) ∧ Below w.heap.size w w' := by
  have hu34 := Tryd.underlying34
  have hu70 := Tryd.underlying70
  have HB := Aside0.mk (Below.refl w.heap.size w)
  have H : (spec_Covering.l0 k a0_0 a0_1 0 0) = some (r1, r2) := h
  clear h
  have H' := Aside0.mk H
  clear H
  go_enter Tryd.func76, Tryd.ntmps76
  go_wp2_with (first | ((with_reducible refine gate_dst (N := 1) rfl ?_); refine box_event ?hg (N := 1) ?hd (cs := #[.int .u64 a0_0, .int .u64 a0_1]) (t := 34) ?hr ?_; (case hd => rfl); (case hg => rfl); (case hr => first | (go_simp; done) | (go_simp; rfl)); intro gb223 hg w2 hbox hb; have n0_ := Aside0.mk (below_step (by repeat (first | (with_reducible first | exact HB.out | apply below_alloc | apply pw_below_drewN | apply below_drew1) | exact HB.out)) hb); have n1_ := Aside0.mk (hbox); have n2_ := Aside0.mk ((by rw [hg]; exact (below_size (by repeat (first | (with_reducible first | exact HB.out | apply below_alloc | apply pw_below_drewN | apply below_drew1) | exact HB.out))) : w.heap.size ≤ gb223)); have n3_ := Aside0.mk ((by rw [hg]; exact (below_size (by repeat (first | (with_reducible first | exact HB.out | apply below_alloc | apply pw_below_drewN | apply below_drew1) | exact HB.out))) : w.heap.size ≤ gb223)); clear HB; have HB := n0_; have BK223 := n1_; have GW223 := n2_; have GE223 := n3_; clear n0_ n1_ n2_ n3_; clear hb hbox hg) | ((with_reducible refine gate_dst (N := 2) rfl ?_); refine box_event ?hg (N := 2) ?hd (cs := #[.int .u64 0, .int .u64 0]) (t := 70) ?hr ?_; (case hd => rfl); (case hg => rfl); (case hr => first | (go_simp; done) | (go_simp; rfl)); intro gb224 hg w3 hbox hb; have n0_ := Aside0.mk (blk_below (g := gb223) (o := .cells #[.int .u64 a0_0, .int .u64 a0_1] 34 (0, 0)) (by (with_reducible repeat (first | refine blk_drewN ?_ _ | refine blk_drew ?_ | refine blk_alloc ?_ _)); exact BK223.out) hb); have n1_ := Aside0.mk (below_step (by repeat (first | (with_reducible first | exact HB.out | apply below_alloc | apply pw_below_drewN | apply below_drew1 | refine below_set ?_ GE223.out) | exact HB.out)) hb); have n2_ := Aside0.mk (hbox); have n3_ := Aside0.mk ((by rw [hg]; exact (below_size (by repeat (first | (with_reducible first | exact HB.out | apply below_alloc | apply pw_below_drewN | apply below_drew1 | refine below_set ?_ GE223.out) | exact HB.out))) : w.heap.size ≤ gb224)); have n4_ := Aside0.mk ((by rw [hg]; exact (below_size (by repeat (first | (with_reducible first | exact HB.out | apply below_alloc | apply pw_below_drewN | apply below_drew1 | refine below_set ?_ GE223.out) | exact HB.out))) : w.heap.size ≤ gb224)); have n5_ := Aside0.mk ((by rw [hg]; exact Nat.ne_of_lt (blk_lt (g := gb223) (o := .cells #[.int .u64 a0_0, .int .u64 a0_1] 34 (0, 0)) (by (with_reducible repeat (first | refine blk_drewN ?_ _ | refine blk_drew ?_ | refine blk_alloc ?_ _)); exact BK223.out)) : gb223 ≠ gb224)); have n6_ := Aside0.mk ((by rw [hg]; exact Nat.ne_of_gt (blk_lt (g := gb223) (o := .cells #[.int .u64 a0_0, .int .u64 a0_1] 34 (0, 0)) (by (with_reducible repeat (first | refine blk_drewN ?_ _ | refine blk_drew ?_ | refine blk_alloc ?_ _)); exact BK223.out)) : gb224 ≠ gb223)); clear BK223; clear HB; have BK223 := n0_; have HB := n1_; have BK224 := n2_; have GW224 := n3_; have GE224 := n4_; have NB223_224 := n5_; have NB224_223 := n6_; clear n0_ n1_ n2_ n3_ n4_ n5_ n6_; clear hb hbox hg) | ((with_reducible refine gate_dst (N := 3) rfl ?_); refine box_event ?hg (N := 3) ?hd (cs := #[.int .u64 0, .int .u64 0]) (t := 70) ?hr ?_; (case hd => rfl); (case hg => rfl); (case hr => first | (go_simp; done) | (go_simp; rfl)); intro gb225 hg w4 hbox hb; have n0_ := Aside0.mk (blk_below (g := gb223) (o := .cells #[.int .u64 a0_0, .int .u64 a0_1] 34 (0, 0)) (by (with_reducible repeat (first | refine blk_drewN ?_ _ | refine blk_drew ?_ | refine blk_alloc ?_ _)); exact BK223.out) hb); have n1_ := Aside0.mk (blk_below (g := gb224) (o := .cells #[.int .u64 0, .int .u64 0] 70 (0, 0)) (by (with_reducible repeat (first | refine blk_drewN ?_ _ | refine blk_drew ?_ | refine blk_alloc ?_ _)); exact BK224.out) hb); have n2_ := Aside0.mk (below_step (by repeat (first | (with_reducible first | exact HB.out | apply below_alloc | apply pw_below_drewN | apply below_drew1 | refine below_set ?_ GE223.out | refine below_set ?_ GE224.out) | exact HB.out)) hb); have n3_ := Aside0.mk (hbox); have n4_ := Aside0.mk ((by rw [hg]; exact (below_size (by repeat (first | (with_reducible first | exact HB.out | apply below_alloc | apply pw_below_drewN | apply below_drew1 | refine below_set ?_ GE223.out | refine below_set ?_ GE224.out) | exact HB.out))) : w.heap.size ≤ gb225)); have n5_ := Aside0.mk ((by rw [hg]; exact (below_size (by repeat (first | (with_reducible first | exact HB.out | apply below_alloc | apply pw_below_drewN | apply below_drew1 | refine below_set ?_ GE223.out | refine below_set ?_ GE224.out) | exact HB.out))) : w.heap.size ≤ gb225)); have n6_ := Aside0.mk ((by rw [hg]; exact Nat.ne_of_lt (blk_lt (g := gb223) (o := .cells #[.int .u64 a0_0, .int .u64 a0_1] 34 (0, 0)) (by (with_reducible repeat (first | refine blk_drewN ?_ _ | refine blk_drew ?_ | refine blk_alloc ?_ _)); exact BK223.out)) : gb223 ≠ gb225)); have n7_ := Aside0.mk ((by rw [hg]; exact Nat.ne_of_gt (blk_lt (g := gb223) (o := .cells #[.int .u64 a0_0, .int .u64 a0_1] 34 (0, 0)) (by (with_reducible repeat (first | refine blk_drewN ?_ _ | refine blk_drew ?_ | refine blk_alloc ?_ _)); exact BK223.out)) : gb225 ≠ gb223)); have n8_ := Aside0.mk ((by rw [hg]; exact Nat.ne_of_lt (blk_lt (g := gb224) (o := .cells #[.int .u64 0, .int .u64 0] 70 (0, 0)) (by (with_reducible repeat (first | refine blk_drewN ?_ _ | refine blk_drew ?_ | refine blk_alloc ?_ _)); exact BK224.out)) : gb224 ≠ gb225)); have n9_ := Aside0.mk ((by rw [hg]; exact Nat.ne_of_gt (blk_lt (g := gb224) (o := .cells #[.int .u64 0, .int .u64 0] 70 (0, 0)) (by (with_reducible repeat (first | refine blk_drewN ?_ _ | refine blk_drew ?_ | refine blk_alloc ?_ _)); exact BK224.out)) : gb225 ≠ gb224)); clear BK223; clear BK224; clear HB; have BK223 := n0_; have BK224 := n1_; have HB := n2_; have BK225 := n3_; have GW225 := n4_; have GE225 := n5_; have NB223_225 := n6_; have NB225_223 := n7_; have NB224_225 := n8_; have NB225_224 := n9_; clear n0_ n1_ n2_ n3_ n4_ n5_ n6_ n7_ n8_ n9_; clear hb hbox hg; have hnb5 := NB225_223.out; have hnc5 := NB223_225.out; have hnb6 := NB225_224.out; have hnc6 := NB224_225.out; have hcz7_0 : w4.cell? ⟨gb225, 0, none⟩ = some (.int .u64 0) := (blk_cell BK225.out 0).trans rfl; have hcz7_1 : w4.cell? ⟨gb225, 1, none⟩ = some (.int .u64 0) := (blk_cell BK225.out 1).trans rfl; have hfz7_0 := blk_frozen BK225.out 0; have hfz7_1 := blk_frozen BK225.out 1))
  try simp only [Act.put, List.setIfInBounds_toArray, List.set_cons_zero, List.set_cons_succ]
  go_loopg [] k (fun kq w' => ∃ (x226000_1 : Int), Aside0 (spec_Covering.l0 kq a0_0 a0_1 x226000_1 0 = some (r1, r2)) ∧ Aside0 (kq ≤ k) ∧ Aside0 (w'.heap[gb223]? = some (.cells #[.int .u64 a0_0, .int .u64 a0_1] 34 (0, 0))) ∧ Aside0 (w'.heap[gb224]? = some (.cells #[.int .u64 0, .int .u64 0] 70 (0, 0))) ∧ Aside0 (w'.heap[gb225]? = some (.cells #[.int .u64 x226000_1, .int .u64 0] 70 (0, 0))) ∧ Aside0 (Below w.heap.size w w'))
  case atStart => exact ⟨(0), H', ⟨Nat.le_refl _⟩, ⟨by (with_reducible repeat (first | refine blk_drewN ?_ _ | refine blk_drew ?_ | refine blk_alloc ?_ _)); refine blk_far ?_ NB223_225.out _; (with_reducible repeat (first | refine blk_drewN ?_ _ | refine blk_drew ?_ | refine blk_alloc ?_ _)); refine blk_far ?_ NB223_225.out _; (with_reducible repeat (first | refine blk_drewN ?_ _ | refine blk_drew ?_ | refine blk_alloc ?_ _)); exact BK223.out⟩, ⟨by (with_reducible repeat (first | refine blk_drewN ?_ _ | refine blk_drew ?_ | refine blk_alloc ?_ _)); refine blk_far ?_ NB224_225.out _; (with_reducible repeat (first | refine blk_drewN ?_ _ | refine blk_drew ?_ | refine blk_alloc ?_ _)); refine blk_far ?_ NB224_225.out _; (with_reducible repeat (first | refine blk_drewN ?_ _ | refine blk_drew ?_ | refine blk_alloc ?_ _)); exact BK224.out⟩, ⟨by (with_reducible repeat (first | refine blk_drewN ?_ _ | refine blk_drew ?_ | refine blk_alloc ?_ _)); refine blk_put (cs := #[.int .u64 0, .int .u64 0]) ?_ 1 _ rfl; (with_reducible repeat (first | refine blk_drewN ?_ _ | refine blk_drew ?_ | refine blk_alloc ?_ _)); refine blk_put (cs := #[.int .u64 0, .int .u64 0]) ?_ 0 _ rfl; (with_reducible repeat (first | refine blk_drewN ?_ _ | refine blk_drew ?_ | refine blk_alloc ?_ _)); exact BK225.out⟩, ⟨by repeat (first | (with_reducible first | exact HB.out | apply below_alloc | apply pw_below_drewN | apply below_drew1 | refine below_set ?_ GE223.out | refine below_set ?_ GE224.out | refine below_set ?_ GE225.out) | exact HB.out)⟩⟩
  case round =>
    clear H'
    try clear p2
    try clear c5
    try clear c6
    try clear c7
    try clear hcz7_0
    try clear hcz7_1
    try clear hfz7_0
    try clear hfz7_1
    obtain ⟨x226000_1, HA, HK1, BK223, BK224, BK225, HB⟩ := hrel
    cases gk with
    | zero => exact absurd HA.out (by simp [spec_Covering.l0])
    | succ k1 =>
      have H := HA.out
      clear HA
      simp only [spec_Covering.l0] at H
      by_cases c8 : x226000_1 < 64
      · rw [if_pos c8] at H
        have c8b0 : decide (x226000_1 < 64) = true := decide_eq_true c8
        clear c8
        by_cases c9 : 0 ≤ x226000_1
        · rw [if_pos c9] at H
          have c9b0 := eq_true c9
          have c9b1 : decide (0 ≤ x226000_1) = true := decide_eq_true c9
          clear c9
          obtain ⟨ji10, hji10⟩ : ∃ j_ : Int, (shr .u64 (IntKind.u64.wrap ((IntKind.u64.wrap (a0_1 - a0_0)) - 1)) x226000_1) = j_ := ⟨_, rfl⟩
          replace H : (if (ji10) > 0 then (spec_Covering.l0 k1 a0_0 a0_1 (IntKind.u64.wrap (x226000_1 + 1)) 0) else (some (x226000_1, shr .u64 a0_0 x226000_1))) = some (r1, r2) := by first | (rw [hji10] at H; exact H) | (simp only [hji10] at H ⊢; exact H)
          have hji10_ : ((IntKind.u64.wrap ((IntKind.u64.wrap (a0_1 - a0_0)) - 1)) / 2 ^ min x226000_1.toNat 64) = ji10 := hji10
          have hji10z : x226000_1 ≤ 64 → ((IntKind.u64.wrap ((IntKind.u64.wrap (a0_1 - a0_0)) - 1)) / 2 ^ x226000_1.toNat) = ji10 := shr_small hji10
          by_cases c11 : (ji10) > 0
          · rw [if_pos c11] at H
            have c11b0 : decide (0 < (ji10)) = true := decide_eq_true c11
            clear c11
            have H' := Aside0.mk H
            clear H
            have hnb12 := NB225_223.out
            have hnc12 := NB223_225.out
            have hnb13 := NB225_224.out
            have hnc13 := NB224_225.out
            have hcz14_0 : wr.cell? ⟨gb225, 0, none⟩ = some (.int .u64 x226000_1) := (blk_cell BK225.out 0).trans rfl
            have hcz14_1 : wr.cell? ⟨gb225, 1, none⟩ = some (.int .u64 0) := (blk_cell BK225.out 1).trans rfl
            have hfz14_0 := blk_frozen BK225.out 0
            have hfz14_1 := blk_frozen BK225.out 1
            have hnb15 := NB223_224.out
            have hnc15 := NB224_223.out
            have hcz16_0 : wr.cell? ⟨gb223, 0, none⟩ = some (.int .u64 a0_0) := (blk_cell BK223.out 0).trans rfl
            have hcz16_1 : wr.cell? ⟨gb223, 1, none⟩ = some (.int .u64 a0_1) := (blk_cell BK223.out 1).trans rfl
            have hfz16_0 := blk_frozen BK223.out 0
            have hfz16_1 := blk_frozen BK223.out 1
            go_wp2
            go_roundg k1
            case measure => have := HK1.out; omega
            case rel => exact ⟨(IntKind.u64.wrap (x226000_1 + 1)), H', ⟨by have := HK1.out; omega⟩, ⟨by (with_reducible repeat (first | refine blk_drewN ?_ _ | refine blk_drew ?_ | refine blk_alloc ?_ _)); refine blk_far ?_ NB223_225.out _; (with_reducible repeat (first | refine blk_drewN ?_ _ | refine blk_drew ?_ | refine blk_alloc ?_ _)); exact BK223.out⟩, ⟨by (with_reducible repeat (first | refine blk_drewN ?_ _ | refine blk_drew ?_ | refine blk_alloc ?_ _)); refine blk_far ?_ NB224_225.out _; (with_reducible repeat (first | refine blk_drewN ?_ _ | refine blk_drew ?_ | refine blk_alloc ?_ _)); exact BK224.out⟩, ⟨by (with_reducible repeat (first | refine blk_drewN ?_ _ | refine blk_drew ?_ | refine blk_alloc ?_ _)); refine blk_put (cs := #[.int .u64 x226000_1, .int .u64 0]) ?_ 0 _ rfl; (with_reducible repeat (first | refine blk_drewN ?_ _ | refine blk_drew ?_ | refine blk_alloc ?_ _)); exact BK225.out⟩, ⟨by repeat (first | (with_reducible first | exact HB.out | apply below_alloc | apply pw_below_drewN | apply below_drew1 | refine below_set ?_ GE223.out | refine below_set ?_ GE224.out | refine below_set ?_ GE225.out) | exact HB.out)⟩⟩
          · rw [if_neg c11] at H
            have c11b0 : decide (0 < (ji10)) = false := decide_eq_false c11
            clear c11
            have c17b0 := eq_true (of_decide_eq_true (by first | (with_reducible assumption) | assumption) : 0 ≤ x226000_1)
            obtain ⟨ji18, hji18⟩ : ∃ j_ : Int, (shr .u64 a0_0 x226000_1) = j_ := ⟨_, rfl⟩
            replace H : (some (x226000_1, ji18)) = some (r1, r2) := by first | (rw [hji18] at H; exact H) | (simp only [hji18] at H ⊢; exact H)
            have hji18_ : (a0_0 / 2 ^ min x226000_1.toNat 64) = ji18 := hji18
            have hji18z : x226000_1 ≤ 64 → (a0_0 / 2 ^ x226000_1.toNat) = ji18 := shr_small hji18
            simp only [Option.some.injEq, Prod.mk.injEq] at H
            obtain ⟨rfl, rfl⟩ := H
            have hnb19 := NB225_223.out
            have hnc19 := NB223_225.out
            have hnb20 := NB225_224.out
            have hnc20 := NB224_225.out
            have hcz21_0 : wr.cell? ⟨gb225, 0, none⟩ = some (.int .u64 x226000_1) := (blk_cell BK225.out 0).trans rfl
            have hcz21_1 : wr.cell? ⟨gb225, 1, none⟩ = some (.int .u64 0) := (blk_cell BK225.out 1).trans rfl
            have hfz21_0 := blk_frozen BK225.out 0
            have hfz21_1 := blk_frozen BK225.out 1
            have hnb22 := NB223_224.out
            have hnc22 := NB224_223.out
            have hcz23_0 : wr.cell? ⟨gb223, 0, none⟩ = some (.int .u64 a0_0) := (blk_cell BK223.out 0).trans rfl
            have hcz23_1 : wr.cell? ⟨gb223, 1, none⟩ = some (.int .u64 a0_1) := (blk_cell BK223.out 1).trans rfl
            have hfz23_0 := blk_frozen BK223.out 0
            have hfz23_1 := blk_frozen BK223.out 1
            have hcz24_0 : wr.cell? ⟨gb224, 0, none⟩ = some (.int .u64 0) := (blk_cell BK224.out 0).trans rfl
            have hcz24_1 : wr.cell? ⟨gb224, 1, none⟩ = some (.int .u64 0) := (blk_cell BK224.out 1).trans rfl
            have hfz24_0 := blk_frozen BK224.out 0
            have hfz24_1 := blk_frozen BK224.out 1
            go_wp2
            refine bodyPost_ret (results_cell_row rfl _ _ gb224 70 #[.int .u64 x226000_1, .int .u64 ji18] (0, 0) _ rfl (by (with_reducible repeat (first | refine blk_drewN ?_ _ | refine blk_drew ?_ | refine blk_alloc ?_ _)); refine blk_put (cs := #[.int .u64 x226000_1, .int .u64 0]) ?_ 1 _ rfl; (with_reducible repeat (first | refine blk_drewN ?_ _ | refine blk_drew ?_ | refine blk_alloc ?_ _)); refine blk_put (cs := #[.int .u64 0, .int .u64 0]) ?_ 0 _ rfl; (with_reducible repeat (first | refine blk_drewN ?_ _ | refine blk_drew ?_ | refine blk_alloc ?_ _)); refine blk_far ?_ NB224_225.out _; (with_reducible repeat (first | refine blk_drewN ?_ _ | refine blk_drew ?_ | refine blk_alloc ?_ _)); exact BK224.out) Tryd.underlying70 rfl (by kernel_rfl)) rfl ?_
            exact ⟨by first | rfl | (simp [errW_none, errW_some] <;> rfl) | (simp only [← hji10, ← hji18]; first | rfl | (simp [errW_none, errW_some] <;> rfl)) | (simp [*, errW_none, errW_some] <;> rfl), by repeat (first | (with_reducible first | exact HB.out | apply below_alloc | apply pw_below_drewN | apply below_drew1 | refine below_set ?_ GE223.out | refine below_set ?_ GE224.out | refine below_set ?_ GE225.out) | exact HB.out)⟩
        · rw [if_neg c9] at H
          exact absurd H (by simp)
      · rw [if_neg c8] at H
        have c8b0 : decide (x226000_1 < 64) = false := decide_eq_false c8
        clear c8
        by_cases c25 : 0 ≤ x226000_1
        · rw [if_pos c25] at H
          have c25b0 := eq_true c25
          have c25b1 : decide (0 ≤ x226000_1) = true := decide_eq_true c25
          clear c25
          obtain ⟨ji26, hji26⟩ : ∃ j_ : Int, (shr .u64 a0_0 x226000_1) = j_ := ⟨_, rfl⟩
          replace H : (some (x226000_1, ji26)) = some (r1, r2) := by first | (rw [hji26] at H; exact H) | (simp only [hji26] at H ⊢; exact H)
          have hji26_ : (a0_0 / 2 ^ min x226000_1.toNat 64) = ji26 := hji26
          have hji26z : x226000_1 ≤ 64 → (a0_0 / 2 ^ x226000_1.toNat) = ji26 := shr_small hji26
          simp only [Option.some.injEq, Prod.mk.injEq] at H
          obtain ⟨rfl, rfl⟩ := H
          have hnb27 := NB225_223.out
          have hnc27 := NB223_225.out
          have hnb28 := NB225_224.out
          have hnc28 := NB224_225.out
          have hcz29_0 : wr.cell? ⟨gb225, 0, none⟩ = some (.int .u64 x226000_1) := (blk_cell BK225.out 0).trans rfl
          have hcz29_1 : wr.cell? ⟨gb225, 1, none⟩ = some (.int .u64 0) := (blk_cell BK225.out 1).trans rfl
          have hfz29_0 := blk_frozen BK225.out 0
          have hfz29_1 := blk_frozen BK225.out 1
          have hnb30 := NB223_224.out
          have hnc30 := NB224_223.out
          have hcz31_0 : wr.cell? ⟨gb223, 0, none⟩ = some (.int .u64 a0_0) := (blk_cell BK223.out 0).trans rfl
          have hcz31_1 : wr.cell? ⟨gb223, 1, none⟩ = some (.int .u64 a0_1) := (blk_cell BK223.out 1).trans rfl
          have hfz31_0 := blk_frozen BK223.out 0
          have hfz31_1 := blk_frozen BK223.out 1
          have hcz32_0 : wr.cell? ⟨gb224, 0, none⟩ = some (.int .u64 0) := (blk_cell BK224.out 0).trans rfl
          have hcz32_1 : wr.cell? ⟨gb224, 1, none⟩ = some (.int .u64 0) := (blk_cell BK224.out 1).trans rfl
          have hfz32_0 := blk_frozen BK224.out 0
          have hfz32_1 := blk_frozen BK224.out 1
          go_wp2
          refine bodyPost_ret (results_cell_row rfl _ _ gb224 70 #[.int .u64 x226000_1, .int .u64 ji26] (0, 0) _ rfl (by (with_reducible repeat (first | refine blk_drewN ?_ _ | refine blk_drew ?_ | refine blk_alloc ?_ _)); refine blk_put (cs := #[.int .u64 x226000_1, .int .u64 0]) ?_ 1 _ rfl; (with_reducible repeat (first | refine blk_drewN ?_ _ | refine blk_drew ?_ | refine blk_alloc ?_ _)); refine blk_put (cs := #[.int .u64 0, .int .u64 0]) ?_ 0 _ rfl; (with_reducible repeat (first | refine blk_drewN ?_ _ | refine blk_drew ?_ | refine blk_alloc ?_ _)); refine blk_far ?_ NB224_225.out _; (with_reducible repeat (first | refine blk_drewN ?_ _ | refine blk_drew ?_ | refine blk_alloc ?_ _)); exact BK224.out) Tryd.underlying70 rfl (by kernel_rfl)) rfl ?_
          exact ⟨by first | rfl | (simp [errW_none, errW_some] <;> rfl) | (simp only [← hji26]; first | rfl | (simp [errW_none, errW_some] <;> rfl)) | (simp [*, errW_none, errW_some] <;> rfl), by repeat (first | (with_reducible first | exact HB.out | apply below_alloc | apply pw_below_drewN | apply below_drew1 | refine below_set ?_ GE223.out | refine below_set ?_ GE224.out | refine below_set ?_ GE225.out) | exact HB.out)⟩
        · rw [if_neg c25] at H
          exact absurd H (by simp)
end Go.Proofs.YtijldedhcjkhiaaDoor.U
