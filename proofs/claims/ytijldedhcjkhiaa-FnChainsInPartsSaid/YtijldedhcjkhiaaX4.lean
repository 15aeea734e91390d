-- laid by xprint.py (a program of this session over the kit's print); Lean checks it
import Derived.Test.YtijldedhcjkhiaaX0
import Derived.Test.YtijldedhcjkhiaaX1
import Derived.Test.YtijldedhcjkhiaaX2
import Derived.Test.YtijldedhcjkhiaaX3
namespace Go.Proofs.Ytijldedhcjkhiaa.X
open Go.RowKit Go.Proofs.YtijldedhcjkhiaaW.PrintWords Go.Proofs.YtijldedhcjkhiaaW.PrintLast Go.Proofs.YtijldedhcjkhiaaW.PrintMore
attribute [local go_sem] max2_int min2_int max_two min_two max_three min_three max_four min_four   -- for this text's walks alone
set_option linter.unusedVariables false
set_option linter.unusedSimpArgs false

/-! ### impl_ChainBorder: function 10 -/
def impl_ChainBorder.f (k : Nat) (a0_0 : Int) (a0_1 : Int) (a0_2 : Int) (a0_3 : Int) (a0_4 : Int) (a0_5 : Int) (l1 : List Int) (l2 : List (List Int)) : Option (List Int) := (some (([] : List Int) : List Int)).bind fun y194 => (if y194.length + l1.length < 140737488355328 then ((impl_texts.f k l2).bind fun t200 => ((proof_DoorBorder.f k a0_0 a0_1 a0_2 a0_3 a0_4 a0_5 (y194 ++ l1) t200).bind fun t203 => (some t203))) else (none))
theorem impl_ChainBorder.mono : ∀ a0 a1 a2 a3 a4 a5 a6 a7 k, LeO (impl_ChainBorder.f k a0 a1 a2 a3 a4 a5 a6 a7) (impl_ChainBorder.f (k + 1) a0 a1 a2 a3 a4 a5 a6 a7) := by
  intro a0 a1 a2 a3 a4 a5 a6 a7 k
  unfold impl_ChainBorder.f
  repeat' first
      | (with_reducible exact impl_texts.mono _ _)
      | (with_reducible exact proof_DoorBorder.mono _ _ _ _ _ _ _ _ _)
      | (with_reducible exact LeO.refl _)
      | (with_reducible exact LeO.none _)
      | (with_reducible refine LeO.ite ?_ ?_)
      | (with_reducible refine LeO.bind ?_ (fun _ => ?_))
      | exact impl_texts.mono _ _
      | exact proof_DoorBorder.mono _ _ _ _ _ _ _ _ _
      | exact LeO.none _
      | refine LeO.ite ?_ ?_
      | refine LeO.bind ?_ (fun _ => ?_)
def impl_ChainBorder.T1 : Bool × List (List Nat × List Nat) := (true, [([], []), ([0], [0]), ([1], [1]), ([], []), ([], []), ([3, 4], [3, 4]), ([], []), ([6, 5], [6]), ([2, 5, 7, 7], [2, 5, 7]), ([8, 8, 0, 1, 2, 3, 4, 5, 6, 7, 8], [8])])
def impl_ChainBorder.B1 : List Nat := [0, 1, 3, 0, 0, 24, 0, 120, 255, 511]
theorem impl_ChainBorder.tab1 : rtab .any (opsOf Try.f10 1) = impl_ChainBorder.T1 := by kernel_rfl
theorem impl_ChainBorder.bits1 : waitsOk impl_ChainBorder.T1.2 impl_ChainBorder.B1 = true := by kernel_rfl
set_option maxHeartbeats 8000000 in
set_option maxRecDepth 100000 in
theorem impl_ChainBorder.calls (k : Nat) (a0_0 : Int) (a0_1 : Int) (a0_2 : Int) (a0_3 : Int) (a0_4 : Int) (a0_5 : Int) (A1 : Option Addr) (c1 : Nat) (l1 : List Int) (A2 : Option Addr) (c2 : Nat) (l2 : List (List Int)) (r : List Int) (w : World) (hr1 : Kd.C (Kd.int .u8) w A1 l1.length l1) (hc1 : l1.length ≤ c1) (hr2 : Kd.C (Kd.slice 5 (Kd.int .u8)) w A2 l2.length l2) (hc2 : l2.length ≤ c2) (h : impl_ChainBorder.f k a0_0 a0_1 a0_2 a0_3 a0_4 a0_5 l1 l2 = some r) :
    Calls Try.prog 10 #[.agg #[.int .i64 a0_0, .int .i64 a0_1, .int .i64 a0_2, .int .u64 a0_3, .int .u64 a0_4, .int .u64 a0_5], .slice A1 l1.length c1, .slice A2 l2.length c2] w fun e w' => ∃ v0_ : Value, e = .returned (v0_) ∧ Kd.V (Kd.int .u8) 5 w' w.heap.size (fun k_ => (w.heap.size ≤ k_)) v0_ r ∧ Below w.heap.size w w' := by
  have hu24 := Try.underlying24
  have hu40 := Try.underlying40
  have HR1 := Aside0.mk hr1
  have HC1 := Aside0.mk hc1
  clear hr1 hc1
  have HR2 := Aside0.mk hr2
  have HC2 := Aside0.mk hc2
  clear hr2 hc2
  have HB := Aside0.mk (Below.refl w.heap.size w)
  have H : ((some (([] : List Int) : List Int)).bind fun y194 => (if y194.length + l1.length < 140737488355328 then ((impl_texts.f k l2).bind fun t200 => ((proof_DoorBorder.f k a0_0 a0_1 a0_2 a0_3 a0_4 a0_5 (y194 ++ l1) t200).bind fun t203 => (some t203))) else (none))) = some r := h
  clear h
  obtain ⟨y194, hy194⟩ : ∃ y_ : List Int, y_ = (([] : List Int)) := ⟨_, rfl⟩
  replace H : (if y194.length + l1.length < 140737488355328 then ((impl_texts.f k l2).bind fun t200 => ((proof_DoorBorder.f k a0_0 a0_1 a0_2 a0_3 a0_4 a0_5 (y194 ++ l1) t200).bind fun t203 => (some t203))) else (none)) = some r := by first | (rw [hy194]; with_reducible exact H) | (have H2_ := (Option.bind_some _ _).symm.trans H; rw [hy194]; with_reducible exact H2_) | (have H2_ := (Option.bind_some _ _).symm.trans H; with_reducible exact H2_) | with_reducible exact H | (rw [hy194]; exact H) | exact H
  have Ny194 := Aside0.mk hy194
  clear hy194
  by_cases c4 : y194.length + l1.length < 140737488355328
  · rw [if_pos c4] at H
    have LMc4 := Aside0.mk c4
    clear c4
    obtain ⟨y197, hy197⟩ : ∃ y_ : List Int, y_ = (y194 ++ l1) := ⟨_, rfl⟩
    replace H : ((impl_texts.f k l2).bind fun t200 => ((proof_DoorBorder.f k a0_0 a0_1 a0_2 a0_3 a0_4 a0_5 y197 t200).bind fun t203 => (some t203))) = some r := by first | (rw [hy197]; with_reducible exact H) | (have H2_ := (Option.bind_some _ _).symm.trans H; rw [hy197]; with_reducible exact H2_) | (have H2_ := (Option.bind_some _ _).symm.trans H; with_reducible exact H2_) | with_reducible exact H | (rw [hy197]; exact H) | exact H
    have Ny197 := Aside0.mk hy197
    clear hy197
    replace H := Option.bind_eq_some_iff.mp H
    obtain ⟨t200, A50, H⟩ := H
    replace H : ((proof_DoorBorder.f k a0_0 a0_1 a0_2 a0_3 a0_4 a0_5 y197 t200).bind fun t203 => (some t203)) = some r := H
    have A5 := Aside0.mk A50
    clear A50
    replace H := Option.bind_eq_some_iff.mp H
    obtain ⟨t203, A60, H⟩ := H
    replace H : (some t203) = some r := H
    have A6 := Aside0.mk A60
    clear A60
    obtain rfl := Option.some.inj H
    go_enter Try.func10, Try.ntmps10
    try go_wp2_with (first | ((with_reducible refine gate_dst (N := 3) rfl ?_); refine box_event ?hg (N := 3) ?hd (cs := #[.int .i64 a0_0, .int .i64 a0_1, .int .i64 a0_2, .int .u64 a0_3, .int .u64 a0_4, .int .u64 a0_5]) (t := 24) ?hr ?_; (case hd => rfl); (case hg => rfl); (case hr => first | (go_simp; done) | (go_simp; rfl)); intro gb193 hg w7 hbox hb; have n0_ := Aside0.mk (below_step (by repeat (first | (with_reducible first | exact HB.out | apply below_alloc | apply pw_below_drewN | apply below_drew1) | exact HB.out)) hb); have n1_ := Aside0.mk (hbox); have n2_ := Aside0.mk ((by rw [hg]; exact (below_size (by repeat (first | (with_reducible first | exact HB.out | apply below_alloc | apply pw_below_drewN | apply below_drew1) | exact HB.out))) : w.heap.size ≤ gb193)); have n3_ := Aside0.mk ((by rw [hg]; exact (below_size (by repeat (first | (with_reducible first | exact HB.out | apply below_alloc | apply pw_below_drewN | apply below_drew1) | exact HB.out))) : w.heap.size ≤ gb193)); clear HB; have HB := n0_; have BK193 := n1_; have GW193 := n2_; have GE193 := n3_; clear n0_ n1_ n2_ n3_; clear hb hbox hg))
    have n0_ := Aside0.mk (blk_drew BK193.out)
    have n1_ := Aside0.mk (below_drew1 HB.out)
    clear BK193
    clear HB
    have BK193 := n0_
    have HB := n1_
    clear n0_ n1_
    refine start_ (n := 10) (S := fun w' => w'.cell? ⟨gb193, 0, none⟩ = some (.int .i64 a0_0) ∧ w'.cell? ⟨gb193, 1, none⟩ = some (.int .i64 a0_1) ∧ w'.cell? ⟨gb193, 2, none⟩ = some (.int .i64 a0_2) ∧ w'.cell? ⟨gb193, 3, none⟩ = some (.int .u64 a0_3) ∧ w'.cell? ⟨gb193, 4, none⟩ = some (.int .u64 a0_4) ∧ w'.cell? ⟨gb193, 5, none⟩ = some (.int .u64 a0_5)) (ds := []) #[false, false, false, false, false, false, false, false, false, false] (by kernel_rfl) rfl rfl ⟨(blk_cell BK193.out 0).trans rfl, (blk_cell BK193.out 1).trans rfl, (blk_cell BK193.out 2).trans rfl, (blk_cell BK193.out 3).trans rfl, (blk_cell BK193.out 4).trans rfl, (blk_cell BK193.out 5).trans rfl⟩ (fun hHeld => ?_); refine with_tabW impl_ChainBorder.tab1 impl_ChainBorder.bits1 (fun HT_ HW_ => ?_)
    generalize w7.drew = w8 at BK193 HB hHeld ⊢
    refine pure_ (i := 4) (N := some 11) (v := ?_) (a' := ?_) #[false, false, false, false, true, false, false, false, false, false] rfl rfl (any_of HT_.out (by kernel_rfl)) (fun _ _ _ h => h) (Or.inl ⟨by rfl, ?_⟩) ?_ ?_
    rotate_left
    · intro w'
      go_simp
      with_reducible rfl
    rotate_left
    · simp only [Act.put, List.setIfInBounds_toArray, List.set_cons_zero, List.set_cons_succ, i64_w, i32_w]
      rfl
    refine pure_ (i := 6) (N := some 13) (v := ?_) (a' := ?_) #[false, false, false, false, true, false, true, false, false, false] rfl rfl (any_of HT_.out (by kernel_rfl)) (fun _ _ _ h => h) (Or.inl ⟨by rfl, ?_⟩) ?_ ?_
    rotate_left
    · intro w'
      go_simp
      with_reducible rfl
    rotate_left
    · simp only [Act.put, List.setIfInBounds_toArray, List.set_cons_zero, List.set_cons_succ, i64_w, i32_w]
      rfl
    refine take_ (i := 0) (N := some 7) (v := ?_) (a' := ?_) #[true, false, false, false, true, false, true, false, false, false] rfl rfl (take_ofW HT_.out HW_.out (by kernel_rfl)) (fun _ _ _ h => h) (Or.inl ⟨by rfl, ?_⟩) hHeld ?_ ?_
    rotate_left
    · rintro w' ⟨s0, s1, s2, s3, s4, s5⟩
      go_simp
      with_reducible rfl
    rotate_left
    · simp only [Act.put, List.setIfInBounds_toArray, List.set_cons_zero, List.set_cons_succ, i64_w, i32_w]
      rfl
    refine pure_ (i := 1) (N := some 8) (v := ?_) (a' := ?_) #[true, true, false, false, true, false, true, false, false, false] rfl rfl (any_of HT_.out (by kernel_rfl)) (fun _ _ _ h => h) (Or.inl ⟨by rfl, ?_⟩) ?_ ?_
    rotate_left
    · intro w'
      go_simp
      with_reducible rfl
    rotate_left
    · simp only [Act.put, List.setIfInBounds_toArray, List.set_cons_zero, List.set_cons_succ, i64_w, i32_w]
      rfl
    refine pure_ (i := 2) (N := some 9) (v := ?_) (a' := ?_) #[true, true, true, false, true, false, true, false, false, false] rfl rfl (any_of HT_.out (by kernel_rfl)) (fun _ _ _ h => h) (Or.inl ⟨by rfl, ?_⟩) ?_ ?_
    rotate_left
    · intro w'
      go_simp
      with_reducible rfl
    rotate_left
    · simp only [Act.put, List.setIfInBounds_toArray, List.set_cons_zero, List.set_cons_succ, i64_w, i32_w]
      rfl
    refine one_ (i := 3) (N := some 10) #[true, true, true, true, true, false, true, false, false, false] rfl rfl (one_of HT_.out (by kernel_rfl)) (by decide) (fun K hK => ?_)
    refine Kd.R_lit_step (Kd.int .u8) _ 5 ?hg (N := 10) ?hd (xs := ([] : List Int)) (inner := []) (ok := fun _ => True) (okp := fun _ => True) ?hr ?hp (fun _ hk => hk) trivial (Below.refl _ _) (Nat.le_refl _) (by simp) ?_; (case hd => rfl); (case hg => rfl); (case hr => first | (go_simp; done) | (go_simp; rfl)); (case hp => exact (Reps.none _ _))
    intro v195 w9 ho10 hb hg_ hnew_
    clear hg_ hnew_
    (first | rw [← Ny194.out] at ho10 | (simp only [Int.reduceToNat] at ho10; rw [← Ny194.out] at ho10))
    have n0_ := Aside0.mk (Kd.R_lower (Kd.R_newM (M := fun k_ => (w.heap.size ≤ k_)) ho10 (below_size (by repeat (first | (with_reducible first | exact HB.out | apply below_alloc | apply pw_below_drewN | apply below_drew1 | refine below_set ?_ GE193.out) | exact HB.out))) (fun k_ h_ => h_)) (below_size (by repeat (first | (with_reducible first | exact HB.out | apply below_alloc | apply pw_below_drewN | apply below_drew1 | refine below_set ?_ GE193.out) | exact HB.out))))
    have n1_ := Aside0.mk (blk_below (g := gb193) (o := .cells #[.int .i64 a0_0, .int .i64 a0_1, .int .i64 a0_2, .int .u64 a0_3, .int .u64 a0_4, .int .u64 a0_5] 24 (0, 0)) (by (with_reducible repeat (first | refine blk_drewN ?_ _ | refine blk_drew ?_ | refine blk_alloc ?_ _)); exact BK193.out) hb)
    have n2_ := Aside0.mk (below_step (by repeat (first | (with_reducible first | exact HB.out | apply below_alloc | apply pw_below_drewN | apply below_drew1 | refine below_set ?_ GE193.out) | exact HB.out)) hb)
    clear BK193
    clear HB
    have HO196 := n0_
    have BK193 := n1_
    have HB := n2_
    clear n0_ n1_ n2_
    clear hb ho10
    refine hK.out _ _ ⟨(blk_cell BK193.out 0).trans rfl, (blk_cell BK193.out 1).trans rfl, (blk_cell BK193.out 2).trans rfl, (blk_cell BK193.out 3).trans rfl, (blk_cell BK193.out 4).trans rfl, (blk_cell BK193.out 5).trans rfl⟩ (fun hHeld => ?_)
    clear hK K
    refine norm_ (a' := ?_) ?_ ?_
    rotate_left
    · show Act.put _ (some 10) _ = _
      simp only [Act.put, List.setIfInBounds_toArray, List.set_cons_zero, List.set_cons_succ, i64_w, i32_w]
      rfl
    refine one_ (i := 5) (N := some 12) #[true, true, true, true, true, true, true, false, false, false] rfl rfl (one_of HT_.out (by kernel_rfl)) (by decide) (fun K hK => ?_)
    refine Kd.R_append_rows_step (Kd.int .u8) (w0 := w) w.heap.size (by rfl) (.tmp 10) (.tmp 11) 25 5 (.int .u8 0) 1 rfl Try.underlying25 info5 rfl (by decide) (by omega) v195 y194 l1 _ _ _ (fun k_ => (w.heap.size ≤ k_)) (fun _ => False) rfl rfl ?aO ?aR (fun _ _ h => h) (fun _ h => h.elim) ?aF ?aB ?aS ?aL ?_
    (case aR => repeat (first | exact (Kd.C_below HR1.out HB.out) | (with_reducible refine Kd.C_alloc ?_ _) | (with_reducible refine Kd.C_drewN ?_ _) | (with_reducible refine Kd.C_drew ?_)))
    (case aB => exact (by repeat (first | (with_reducible first | exact HB.out | apply below_alloc | apply pw_below_drewN | apply below_drew1 | refine below_set ?_ GE193.out) | exact HB.out)))
    (case aF => exact (fun k_ hk => (Nat.le_trans (below_size (by repeat (first | (with_reducible first | exact HB.out | apply below_alloc | apply pw_below_drewN | apply below_drew1 | refine below_set ?_ GE193.out) | exact HB.out))) hk)))
    (case aO => exact (by (with_reducible repeat (first | apply Kd.R_alloc | apply Kd.R_drewN | apply Kd.R_drew)); exact Kd.R_mono HO196.out (fun _ hk => hk.1)))
    (case aS => exact (below_size (by repeat (first | (with_reducible first | exact HB.out | apply below_alloc | apply pw_below_drewN | apply below_drew1 | refine below_set ?_ GE193.out) | exact HB.out))))
    (case aL => have := LMc4.out; omega)
    intro v198 w11 ho hb hg hat
    rw [← Ny197.out] at ho
    have n0_ := Aside0.mk (blk_grown (g := gb193) (o := .cells #[.int .i64 a0_0, .int .i64 a0_1, .int .i64 a0_2, .int .u64 a0_3, .int .u64 a0_4, .int .u64 a0_5] 24 (0, 0)) (by (with_reducible repeat (first | refine blk_drewN ?_ _ | refine blk_drew ?_ | refine blk_alloc ?_ _)); exact BK193.out) hg (Kd.R_ne HO196.out BK193.out (by decide)))
    have n1_ := Aside0.mk (hb)
    have n2_ := Aside0.mk (ho)
    clear BK193
    clear HB
    clear HO196
    have BK193 := n0_
    have HB := n1_
    have HO199 := n2_
    clear n0_ n1_ n2_
    clear ho hb hg hat
    refine hK.out _ _ ⟨(blk_cell BK193.out 0).trans rfl, (blk_cell BK193.out 1).trans rfl, (blk_cell BK193.out 2).trans rfl, (blk_cell BK193.out 3).trans rfl, (blk_cell BK193.out 4).trans rfl, (blk_cell BK193.out 5).trans rfl⟩ (fun hHeld => ?_)
    clear hK K
    refine norm_ (a' := ?_) ?_ ?_
    rotate_left
    · show Act.put _ (some 12) _ = _
      simp only [Act.put, List.setIfInBounds_toArray, List.set_cons_zero, List.set_cons_succ, i64_w, i32_w]
      rfl
    refine one_ (i := 7) (N := some 14) #[true, true, true, true, true, true, true, true, false, false] rfl rfl (one_of HT_.out (by kernel_rfl)) (by decide) (fun K hK => ?_)
    refine goes_ Try.func15 (by kernel_rfl) rfl #[.slice A2 l2.length c2] (by rfl) rfl rfl (by (try simp only [List.map_toArray, List.map_cons, List.map_nil]); first | done | rfl | (simp only [List.length_drop, List.length_take]; rfl)) ?_
    with_reducible refine (impl_texts.calls k _ _ l2 t200 _ ?side1 ?side2 A5.out).mono ?_
    (case side1 => repeat (first | exact (Kd.C_below HR2.out HB.out) | (with_reducible refine Kd.C_alloc ?_ _) | (with_reducible refine Kd.C_drewN ?_ _) | (with_reducible refine Kd.C_drew ?_)))
    (case side2 => exact HC2.out)
    rintro e w12 ⟨v201, rfl, ho0, hb⟩
    refine ⟨_, rfl, ?_⟩
    have n0_ := Aside0.mk (Kd.R_below (by (with_reducible repeat (first | apply Kd.R_alloc | apply Kd.R_drewN | apply Kd.R_drew)); exact HO199.out) hb)
    have n1_ := Aside0.mk (Kd.S_lower (Kd.S_new' (Kd.S_newM (M := fun k_ => (w.heap.size ≤ k_)) ho0 (below_size (by repeat (first | (with_reducible first | exact HB.out | apply below_alloc | apply pw_below_drewN | apply below_drew1 | refine below_set ?_ GE193.out) | exact HB.out))) (fun k_ h_ => h_)) (Kd.R_lt (by (with_reducible repeat (first | apply Kd.R_alloc | apply Kd.R_drewN | apply Kd.R_drew)); exact HO199.out))) (below_size (by repeat (first | (with_reducible first | exact HB.out | apply below_alloc | apply pw_below_drewN | apply below_drew1 | refine below_set ?_ GE193.out) | exact HB.out))))
    have n2_ := Aside0.mk (blk_below (g := gb193) (o := .cells #[.int .i64 a0_0, .int .i64 a0_1, .int .i64 a0_2, .int .u64 a0_3, .int .u64 a0_4, .int .u64 a0_5] 24 (0, 0)) (by (with_reducible repeat (first | refine blk_drewN ?_ _ | refine blk_drew ?_ | refine blk_alloc ?_ _)); exact BK193.out) hb)
    have n3_ := Aside0.mk (below_step (by repeat (first | (with_reducible first | exact HB.out | apply below_alloc | apply pw_below_drewN | apply below_drew1 | refine below_set ?_ GE193.out) | exact HB.out)) hb)
    clear HO199
    clear BK193
    clear HB
    have HO199 := n0_
    have HO202 := n1_
    have BK193 := n2_
    have HB := n3_
    clear n0_ n1_ n2_ n3_
    (try clear hb)
    (try clear hb2)
    (try clear hk)
    (try clear hi)
    (try clear ho0)
    obtain ⟨Ao13, co13, eo13⟩ := Kd.R_slice HO199.out
    (first | subst eo13 | (injection eo13 with f1_ f2_ f3_; have f4_ := f1_.symm; have f5_ := f3_.symm; clear f1_ f2_ f3_; subst f4_; subst f5_))
    obtain ⟨Ao14, co14, eo14⟩ := Kd.S_slice HO202.out
    (first | subst eo14 | (injection eo14 with f1_ f2_ f3_; have f4_ := f1_.symm; have f5_ := f3_.symm; clear f1_ f2_ f3_; subst f4_; subst f5_))
    refine hK.out _ _ ⟨(blk_cell BK193.out 0).trans rfl, (blk_cell BK193.out 1).trans rfl, (blk_cell BK193.out 2).trans rfl, (blk_cell BK193.out 3).trans rfl, (blk_cell BK193.out 4).trans rfl, (blk_cell BK193.out 5).trans rfl⟩ (fun hHeld => ?_)
    clear hK K
    refine norm_ (a' := ?_) ?_ ?_
    rotate_left
    · show Act.put _ (some 14) _ = _
      simp only [Act.put, List.setIfInBounds_toArray, List.set_cons_zero, List.set_cons_succ, i64_w, i32_w]
      rfl
    refine one_ (i := 8) (N := some 15) #[true, true, true, true, true, true, true, true, true, false] rfl rfl (one_of HT_.out (by kernel_rfl)) (by decide) (fun K hK => ?_)
    refine goes_ Try.func17 (by kernel_rfl) rfl #[.iface 40 (.agg #[.int .i64 a0_0, .int .i64 a0_1, .int .i64 a0_2, .int .u64 a0_3, .int .u64 a0_4, .int .u64 a0_5]), .slice Ao13 y197.length co13, .slice Ao14 t200.length co14] (by rfl) rfl rfl (by (try simp only [List.map_toArray, List.map_cons, List.map_nil]); first | done | rfl | (simp only [List.length_drop, List.length_take]; rfl)) ?_
    with_reducible refine (proof_DoorBorder.calls k a0_0 a0_1 a0_2 a0_3 a0_4 a0_5 (fun k_ => some k_ = (.slice Ao13 y197.length co13 : Value).ownBlock) _ _ y197 _ _ t200 t203 _ ?side1 ?side2 ?side3 A6.out).mono ?_
    (case side1 => exact Kd.R_V (Kd.R_tight rfl (Kd.R_types (Kd.R_apart' (HO199.out) (Kd.S_typed HO202.out) (by decide)) BK193.out (by decide))))
    (case side2 => repeat (first | exact (Kd.S_reads' HO202.out).2.2 | (with_reducible refine Kd.C_alloc ?_ _) | (with_reducible refine Kd.C_drewN ?_ _) | (with_reducible refine Kd.C_drew ?_)))
    (case side3 => exact (Kd.S_reads' HO202.out).2.1)
    rintro e w15 ⟨v204, rfl, ho0, hb⟩
    refine ⟨_, rfl, ?_⟩
    have n0_ := Aside0.mk (Kd.R_below (by (with_reducible repeat (first | apply Kd.R_alloc | apply Kd.R_drewN | apply Kd.R_drew)); exact HO199.out) hb)
    have n1_ := Aside0.mk (Kd.S_below (by (with_reducible repeat (first | apply Kd.S_alloc | apply Kd.S_drewN | apply Kd.S_drew)); exact HO202.out) hb)
    have n2_ := Aside0.mk (Kd.V_lower (Kd.V_mono (ok' := fun k_ => (w.heap.size ≤ k_) ∧ some k_ ≠ (.slice Ao14 t200.length co14 : Value).ownBlock ∧ k_ ≠ gb193) ho0 (fun k_ hk_ => ⟨Or.elim hk_ (fun hs_ => ((Kd.R_types (Kd.R_apart' (HO199.out) (Kd.S_typed HO202.out) (by decide)) BK193.out (by decide)).1 k_ hs_.symm).1.1) (fun hn_ => (Nat.le_trans (below_size (by repeat (first | (with_reducible first | exact HB.out | apply below_alloc | apply pw_below_drewN | apply below_drew1 | refine below_set ?_ GE193.out) | exact HB.out))) hn_)), Or.elim hk_ (fun hs_ => ((Kd.R_types (Kd.R_apart' (HO199.out) (Kd.S_typed HO202.out) (by decide)) BK193.out (by decide)).1 k_ hs_.symm).1.2) (fun hn_ => (Kd.fresh' (Kd.S_lt (by (with_reducible repeat (first | apply Kd.S_alloc | apply Kd.S_drewN | apply Kd.S_drew)); exact HO202.out)) k_ hn_)), Or.elim hk_ (fun hs_ => ((Kd.R_types (Kd.R_apart' (HO199.out) (Kd.S_typed HO202.out) (by decide)) BK193.out (by decide)).1 k_ hs_.symm).2) (fun hn_ => (Kd.freshB (g := gb193) (o := .cells #[.int .i64 a0_0, .int .i64 a0_1, .int .i64 a0_2, .int .u64 a0_3, .int .u64 a0_4, .int .u64 a0_5] 24 (0, 0)) (by (with_reducible repeat (first | refine blk_drewN ?_ _ | refine blk_drew ?_ | refine blk_alloc ?_ _)); exact BK193.out) k_ hn_))⟩)) (below_size (by repeat (first | (with_reducible first | exact HB.out | apply below_alloc | apply pw_below_drewN | apply below_drew1 | refine below_set ?_ GE193.out) | exact HB.out))))
    have n3_ := Aside0.mk (blk_below (g := gb193) (o := .cells #[.int .i64 a0_0, .int .i64 a0_1, .int .i64 a0_2, .int .u64 a0_3, .int .u64 a0_4, .int .u64 a0_5] 24 (0, 0)) (by (with_reducible repeat (first | refine blk_drewN ?_ _ | refine blk_drew ?_ | refine blk_alloc ?_ _)); exact BK193.out) hb)
    have n4_ := Aside0.mk (below_step (by repeat (first | (with_reducible first | exact HB.out | apply below_alloc | apply pw_below_drewN | apply below_drew1 | refine below_set ?_ GE193.out) | exact HB.out)) hb)
    clear HO199
    clear HO202
    clear BK193
    clear HB
    have HO199 := n0_
    have HO202 := n1_
    have HO205 := n2_
    have BK193 := n3_
    have HB := n4_
    clear n0_ n1_ n2_ n3_ n4_
    (try clear hb)
    (try clear hb2)
    (try clear hk)
    (try clear hi)
    (try clear ho0)
    refine hK.out _ _ ⟨(blk_cell BK193.out 0).trans rfl, (blk_cell BK193.out 1).trans rfl, (blk_cell BK193.out 2).trans rfl, (blk_cell BK193.out 3).trans rfl, (blk_cell BK193.out 4).trans rfl, (blk_cell BK193.out 5).trans rfl⟩ (fun hHeld => ?_)
    clear hK K
    refine norm_ (a' := ?_) ?_ ?_
    rotate_left
    · show Act.put _ (some 15) _ = _
      simp only [Act.put, List.setIfInBounds_toArray, List.set_cons_zero, List.set_cons_succ, i64_w, i32_w]
      rfl
    refine pure_ (i := 9) (N := some 6) (v := ?_) (a' := ?_) #[true, true, true, true, true, true, true, true, true, true] rfl rfl (any_of HT_.out (by kernel_rfl)) (fun _ _ _ h => h) (Or.inl ⟨by rfl, ?_⟩) ?_ ?_
    rotate_left
    · intro w'
      go_simp
      with_reducible rfl
    rotate_left
    · simp only [Act.put, List.setIfInBounds_toArray, List.set_cons_zero, List.set_cons_succ, i64_w, i32_w]
      rfl
    refine done_ (done_of HT_.out (by kernel_rfl)) ?_
    try go_wp2
    go_ret
    exact ⟨_, by first | rfl | (simp [errW_none, errW_some] <;> rfl) | (simp [*, errW_none, errW_some] <;> rfl), by (with_reducible repeat (first | apply Kd.V_alloc | apply Kd.V_drewN | apply Kd.V_drew)); exact Kd.V_mono HO205.out (fun _ hk => hk.1), by repeat (first | (with_reducible first | exact HB.out | apply below_alloc | apply pw_below_drewN | apply below_drew1 | refine below_set ?_ GE193.out) | exact HB.out)⟩
  · rw [if_neg c4] at H
    exact absurd H (by simp)

/-! ### laws_FnChainsInParts: function 3 -/
mutual
def laws_FnChainsInParts.j0 : Nat → List Int → List (List Int) → List (List Int) → Int → Bool → Int → Int → Int → Int → Int → Int → Option (Bool)
  | 0, _, _, _, _, _, _, _, _, _, _, _ => none
  | k + 1, x1, x2, x3, x4, x25, x207000, x207001, x207002, x207003, x207004, x207005 => if x25 = true then (some true) else (laws_FnChainsInParts.j1 k x1 x2 x3 x4 x207000 x207001 x207002 x207003 x207004 x207005)
def laws_FnChainsInParts.j1 : Nat → List Int → List (List Int) → List (List Int) → Int → Int → Int → Int → Int → Int → Int → Option (Bool)
  | 0, _, _, _, _, _, _, _, _, _, _ => none
  | k + 1, x1, x2, x3, x4, x207000, x207001, x207002, x207003, x207004, x207005 => (some (([] : List (List Int)) : List (List Int))).bind fun y209 => (if y209.length + x2.length < 5864062014805 then ((some (y209 ++ x2 : List (List Int))).bind fun y212 => (if y212.length + x3.length < 5864062014805 then ((some (y212 ++ x3 : List (List Int))).bind fun y215 => ((laws_logSmall.f k y215).bind fun t218 => (if t218 = true then (if (y215.length : Int) > 60 then (laws_FnChainsInParts.j2 k x1 x2 x3 x4 y215 true x207000 x207001 x207002 x207003 x207004 x207005) else (laws_FnChainsInParts.j2 k x1 x2 x3 x4 y215 (decide ((x1.length : Int) > 5000)) x207000 x207001 x207002 x207003 x207004 x207005)) else (laws_FnChainsInParts.j2 k x1 x2 x3 x4 y215 true x207000 x207001 x207002 x207003 x207004 x207005)))) else (none))) else (none))
def laws_FnChainsInParts.j2 : Nat → List Int → List (List Int) → List (List Int) → Int → List (List Int) → Bool → Int → Int → Int → Int → Int → Int → Option (Bool)
  | 0, _, _, _, _, _, _, _, _, _, _, _, _ => none
  | k + 1, x1, x2, x3, x4, x11, x43, x207000, x207001, x207002, x207003, x207004, x207005 => if x43 = true then (some true) else (laws_FnChainsInParts.j3 k x1 x2 x3 x4 x11 x207000 x207001 x207002 x207003 x207004 x207005)
def laws_FnChainsInParts.j3 : Nat → List Int → List (List Int) → List (List Int) → Int → List (List Int) → Int → Int → Int → Int → Int → Int → Option (Bool)
  | 0, _, _, _, _, _, _, _, _, _, _, _ => none
  | k + 1, x1, x2, x3, x4, x11, x207000, x207001, x207002, x207003, x207004, x207005 => (impl_ChainInner.f k x207000 x207001 x207002 x207003 x207004 x207005 x1 x11 x4).bind fun t219 => ((impl_ChainInner.f k x207000 x207001 x207002 x207003 x207004 x207005 x1 x2 x4).bind fun t222 => ((impl_ChainInner.f k x207000 x207001 x207002 x207003 x207004 x207005 t222 x3 (shr .u64 x4 (x2.length : Int))).bind fun t225 => ((spec_SameText.f t219 t225).bind fun t228 => (if t228 = true then (laws_FnChainsInParts.j4 k x1 x2 x3 x4 x11 x207000 x207001 x207002 x207003 x207004 x207005) else (some false)))))
def laws_FnChainsInParts.j4 : Nat → List Int → List (List Int) → List (List Int) → Int → List (List Int) → Int → Int → Int → Int → Int → Int → Option (Bool)
  | 0, _, _, _, _, _, _, _, _, _, _, _ => none
  | k + 1, x1, x2, x3, x4, x11, x207000, x207001, x207002, x207003, x207004, x207005 => (impl_ChainInnerRight.f k x207000 x207001 x207002 x207003 x207004 x207005 x1 x11 x4).bind fun t229 => ((impl_ChainInnerRight.f k x207000 x207001 x207002 x207003 x207004 x207005 x1 x2 x4).bind fun t232 => ((impl_ChainInnerRight.f k x207000 x207001 x207002 x207003 x207004 x207005 t232 x3 (shr .u64 x4 (x2.length : Int))).bind fun t235 => ((spec_SameText.f t229 t235).bind fun t238 => (if t238 = true then (laws_FnChainsInParts.j5 k x1 x2 x3 x11 x207000 x207001 x207002 x207003 x207004 x207005) else (some false)))))
def laws_FnChainsInParts.j5 : Nat → List Int → List (List Int) → List (List Int) → List (List Int) → Int → Int → Int → Int → Int → Int → Option (Bool)
  | 0, _, _, _, _, _, _, _, _, _, _ => none
  | k + 1, x1, x2, x3, x11, x207000, x207001, x207002, x207003, x207004, x207005 => (impl_ChainBorder.f k x207000 x207001 x207002 x207003 x207004 x207005 x1 x11).bind fun t239 => ((impl_ChainBorder.f k x207000 x207001 x207002 x207003 x207004 x207005 x1 x2).bind fun t242 => ((impl_ChainBorder.f k x207000 x207001 x207002 x207003 x207004 x207005 t242 x3).bind fun t245 => ((spec_SameText.f t239 t245).bind fun t248 => (if t248 = true then ((impl_ChainInner.f k x207000 x207001 x207002 x207003 x207004 x207005 x1 x11 18446744073709551615).bind fun t249 => ((spec_SameText.f t239 t249).bind fun t252 => (if t252 = true then ((impl_ChainInnerRight.f k x207000 x207001 x207002 x207003 x207004 x207005 x1 x11 18446744073709551615).bind fun t253 => ((spec_SameText.f t239 t253).bind fun t256 => (if t256 = true then ((impl_ChainInnerRight.f k x207000 x207001 x207002 x207003 x207004 x207005 x1 x11 0).bind fun t257 => ((spec_SameText.f t257 x1).bind fun t260 => (some t260))) else (some false)))) else (some false)))) else (some false)))))
end
def laws_FnChainsInParts.f (k : Nat) (a0_0 : Int) (a0_1 : Int) (a0_2 : Int) (a0_3 : Int) (a0_4 : Int) (a0_5 : Int) (l1 : List Int) (l2 : List (List Int)) (l3 : List (List Int)) (a4 : Int) : Option (Bool) := if (l1.length : Int) > 2147483647 then (laws_FnChainsInParts.j0 k l1 l2 l3 a4 true a0_0 a0_1 a0_2 a0_3 a0_4 a0_5) else ((laws_zzFits2.f k l2).bind fun t207 => (if t207 = true then ((laws_zzFits2.f k l3).bind fun t208 => (laws_FnChainsInParts.j0 k l1 l2 l3 a4 (!t208) a0_0 a0_1 a0_2 a0_3 a0_4 a0_5)) else (laws_FnChainsInParts.j0 k l1 l2 l3 a4 true a0_0 a0_1 a0_2 a0_3 a0_4 a0_5)))
theorem laws_FnChainsInParts.mono_l : ∀ k, (∀ y0 y1 y2 y3 y4 y5 y6 y7 y8 y9 y10, LeO (laws_FnChainsInParts.j0 k y0 y1 y2 y3 y4 y5 y6 y7 y8 y9 y10) (laws_FnChainsInParts.j0 (k + 1) y0 y1 y2 y3 y4 y5 y6 y7 y8 y9 y10)) ∧ (∀ y0 y1 y2 y3 y4 y5 y6 y7 y8 y9, LeO (laws_FnChainsInParts.j1 k y0 y1 y2 y3 y4 y5 y6 y7 y8 y9) (laws_FnChainsInParts.j1 (k + 1) y0 y1 y2 y3 y4 y5 y6 y7 y8 y9)) ∧ (∀ y0 y1 y2 y3 y4 y5 y6 y7 y8 y9 y10 y11, LeO (laws_FnChainsInParts.j2 k y0 y1 y2 y3 y4 y5 y6 y7 y8 y9 y10 y11) (laws_FnChainsInParts.j2 (k + 1) y0 y1 y2 y3 y4 y5 y6 y7 y8 y9 y10 y11)) ∧ (∀ y0 y1 y2 y3 y4 y5 y6 y7 y8 y9 y10, LeO (laws_FnChainsInParts.j3 k y0 y1 y2 y3 y4 y5 y6 y7 y8 y9 y10) (laws_FnChainsInParts.j3 (k + 1) y0 y1 y2 y3 y4 y5 y6 y7 y8 y9 y10)) ∧ (∀ y0 y1 y2 y3 y4 y5 y6 y7 y8 y9 y10, LeO (laws_FnChainsInParts.j4 k y0 y1 y2 y3 y4 y5 y6 y7 y8 y9 y10) (laws_FnChainsInParts.j4 (k + 1) y0 y1 y2 y3 y4 y5 y6 y7 y8 y9 y10)) ∧ (∀ y0 y1 y2 y3 y4 y5 y6 y7 y8 y9, LeO (laws_FnChainsInParts.j5 k y0 y1 y2 y3 y4 y5 y6 y7 y8 y9) (laws_FnChainsInParts.j5 (k + 1) y0 y1 y2 y3 y4 y5 y6 y7 y8 y9))
  | 0 => ⟨fun _ _ _ _ _ _ _ _ _ _ _ r h => by simp [laws_FnChainsInParts.j0] at h, fun _ _ _ _ _ _ _ _ _ _ r h => by simp [laws_FnChainsInParts.j1] at h, fun _ _ _ _ _ _ _ _ _ _ _ _ r h => by simp [laws_FnChainsInParts.j2] at h, fun _ _ _ _ _ _ _ _ _ _ _ r h => by simp [laws_FnChainsInParts.j3] at h, fun _ _ _ _ _ _ _ _ _ _ _ r h => by simp [laws_FnChainsInParts.j4] at h, fun _ _ _ _ _ _ _ _ _ _ r h => by simp [laws_FnChainsInParts.j5] at h⟩
  | k + 1 => by
    obtain ⟨ih0, ih1, ih2, ih3, ih4, ih5⟩ := laws_FnChainsInParts.mono_l k
    refine ⟨?_, ?_, ?_, ?_, ?_, ?_⟩
    · intro y0 y1 y2 y3 y4 y5 y6 y7 y8 y9 y10
      unfold laws_FnChainsInParts.j0
      repeat' first
      | (with_reducible exact ih0 _ _ _ _ _ _ _ _ _ _ _)
      | (with_reducible exact ih1 _ _ _ _ _ _ _ _ _ _)
      | (with_reducible exact ih2 _ _ _ _ _ _ _ _ _ _ _ _)
      | (with_reducible exact ih3 _ _ _ _ _ _ _ _ _ _ _)
      | (with_reducible exact ih4 _ _ _ _ _ _ _ _ _ _ _)
      | (with_reducible exact ih5 _ _ _ _ _ _ _ _ _ _)
      | (with_reducible exact impl_ChainBorder.mono _ _ _ _ _ _ _ _ _)
      | (with_reducible exact impl_ChainInner.mono _ _ _ _ _ _ _ _ _ _)
      | (with_reducible exact impl_ChainInnerRight.mono _ _ _ _ _ _ _ _ _ _)
      | (with_reducible exact laws_logSmall.mono _ _)
      | (with_reducible exact laws_zzFits2.mono _ _)
      | (with_reducible exact LeO.refl _)
      | (with_reducible exact LeO.none _)
      | (with_reducible refine LeO.ite ?_ ?_)
      | (with_reducible refine LeO.bind ?_ (fun _ => ?_))
      | exact ih0 _ _ _ _ _ _ _ _ _ _ _
      | exact ih1 _ _ _ _ _ _ _ _ _ _
      | exact ih2 _ _ _ _ _ _ _ _ _ _ _ _
      | exact ih3 _ _ _ _ _ _ _ _ _ _ _
      | exact ih4 _ _ _ _ _ _ _ _ _ _ _
      | exact ih5 _ _ _ _ _ _ _ _ _ _
      | exact impl_ChainBorder.mono _ _ _ _ _ _ _ _ _
      | exact impl_ChainInner.mono _ _ _ _ _ _ _ _ _ _
      | exact impl_ChainInnerRight.mono _ _ _ _ _ _ _ _ _ _
      | exact laws_logSmall.mono _ _
      | exact laws_zzFits2.mono _ _
      | exact LeO.none _
      | refine LeO.ite ?_ ?_
      | refine LeO.bind ?_ (fun _ => ?_)
    · intro y0 y1 y2 y3 y4 y5 y6 y7 y8 y9
      unfold laws_FnChainsInParts.j1
      repeat' first
      | (with_reducible exact ih0 _ _ _ _ _ _ _ _ _ _ _)
      | (with_reducible exact ih1 _ _ _ _ _ _ _ _ _ _)
      | (with_reducible exact ih2 _ _ _ _ _ _ _ _ _ _ _ _)
      | (with_reducible exact ih3 _ _ _ _ _ _ _ _ _ _ _)
      | (with_reducible exact ih4 _ _ _ _ _ _ _ _ _ _ _)
      | (with_reducible exact ih5 _ _ _ _ _ _ _ _ _ _)
      | (with_reducible exact impl_ChainBorder.mono _ _ _ _ _ _ _ _ _)
      | (with_reducible exact impl_ChainInner.mono _ _ _ _ _ _ _ _ _ _)
      | (with_reducible exact impl_ChainInnerRight.mono _ _ _ _ _ _ _ _ _ _)
      | (with_reducible exact laws_logSmall.mono _ _)
      | (with_reducible exact laws_zzFits2.mono _ _)
      | (with_reducible exact LeO.refl _)
      | (with_reducible exact LeO.none _)
      | (with_reducible refine LeO.ite ?_ ?_)
      | (with_reducible refine LeO.bind ?_ (fun _ => ?_))
      | exact ih0 _ _ _ _ _ _ _ _ _ _ _
      | exact ih1 _ _ _ _ _ _ _ _ _ _
      | exact ih2 _ _ _ _ _ _ _ _ _ _ _ _
      | exact ih3 _ _ _ _ _ _ _ _ _ _ _
      | exact ih4 _ _ _ _ _ _ _ _ _ _ _
      | exact ih5 _ _ _ _ _ _ _ _ _ _
      | exact impl_ChainBorder.mono _ _ _ _ _ _ _ _ _
      | exact impl_ChainInner.mono _ _ _ _ _ _ _ _ _ _
      | exact impl_ChainInnerRight.mono _ _ _ _ _ _ _ _ _ _
      | exact laws_logSmall.mono _ _
      | exact laws_zzFits2.mono _ _
      | exact LeO.none _
      | refine LeO.ite ?_ ?_
      | refine LeO.bind ?_ (fun _ => ?_)
    · intro y0 y1 y2 y3 y4 y5 y6 y7 y8 y9 y10 y11
      unfold laws_FnChainsInParts.j2
      repeat' first
      | (with_reducible exact ih0 _ _ _ _ _ _ _ _ _ _ _)
      | (with_reducible exact ih1 _ _ _ _ _ _ _ _ _ _)
      | (with_reducible exact ih2 _ _ _ _ _ _ _ _ _ _ _ _)
      | (with_reducible exact ih3 _ _ _ _ _ _ _ _ _ _ _)
      | (with_reducible exact ih4 _ _ _ _ _ _ _ _ _ _ _)
      | (with_reducible exact ih5 _ _ _ _ _ _ _ _ _ _)
      | (with_reducible exact impl_ChainBorder.mono _ _ _ _ _ _ _ _ _)
      | (with_reducible exact impl_ChainInner.mono _ _ _ _ _ _ _ _ _ _)
      | (with_reducible exact impl_ChainInnerRight.mono _ _ _ _ _ _ _ _ _ _)
      | (with_reducible exact laws_logSmall.mono _ _)
      | (with_reducible exact laws_zzFits2.mono _ _)
      | (with_reducible exact LeO.refl _)
      | (with_reducible exact LeO.none _)
      | (with_reducible refine LeO.ite ?_ ?_)
      | (with_reducible refine LeO.bind ?_ (fun _ => ?_))
      | exact ih0 _ _ _ _ _ _ _ _ _ _ _
      | exact ih1 _ _ _ _ _ _ _ _ _ _
      | exact ih2 _ _ _ _ _ _ _ _ _ _ _ _
      | exact ih3 _ _ _ _ _ _ _ _ _ _ _
      | exact ih4 _ _ _ _ _ _ _ _ _ _ _
      | exact ih5 _ _ _ _ _ _ _ _ _ _
      | exact impl_ChainBorder.mono _ _ _ _ _ _ _ _ _
      | exact impl_ChainInner.mono _ _ _ _ _ _ _ _ _ _
      | exact impl_ChainInnerRight.mono _ _ _ _ _ _ _ _ _ _
      | exact laws_logSmall.mono _ _
      | exact laws_zzFits2.mono _ _
      | exact LeO.none _
      | refine LeO.ite ?_ ?_
      | refine LeO.bind ?_ (fun _ => ?_)
    · intro y0 y1 y2 y3 y4 y5 y6 y7 y8 y9 y10
      unfold laws_FnChainsInParts.j3
      repeat' first
      | (with_reducible exact ih0 _ _ _ _ _ _ _ _ _ _ _)
      | (with_reducible exact ih1 _ _ _ _ _ _ _ _ _ _)
      | (with_reducible exact ih2 _ _ _ _ _ _ _ _ _ _ _ _)
      | (with_reducible exact ih3 _ _ _ _ _ _ _ _ _ _ _)
      | (with_reducible exact ih4 _ _ _ _ _ _ _ _ _ _ _)
      | (with_reducible exact ih5 _ _ _ _ _ _ _ _ _ _)
      | (with_reducible exact impl_ChainBorder.mono _ _ _ _ _ _ _ _ _)
      | (with_reducible exact impl_ChainInner.mono _ _ _ _ _ _ _ _ _ _)
      | (with_reducible exact impl_ChainInnerRight.mono _ _ _ _ _ _ _ _ _ _)
      | (with_reducible exact laws_logSmall.mono _ _)
      | (with_reducible exact laws_zzFits2.mono _ _)
      | (with_reducible exact LeO.refl _)
      | (with_reducible exact LeO.none _)
      | (with_reducible refine LeO.ite ?_ ?_)
      | (with_reducible refine LeO.bind ?_ (fun _ => ?_))
      | exact ih0 _ _ _ _ _ _ _ _ _ _ _
      | exact ih1 _ _ _ _ _ _ _ _ _ _
      | exact ih2 _ _ _ _ _ _ _ _ _ _ _ _
      | exact ih3 _ _ _ _ _ _ _ _ _ _ _
      | exact ih4 _ _ _ _ _ _ _ _ _ _ _
      | exact ih5 _ _ _ _ _ _ _ _ _ _
      | exact impl_ChainBorder.mono _ _ _ _ _ _ _ _ _
      | exact impl_ChainInner.mono _ _ _ _ _ _ _ _ _ _
      | exact impl_ChainInnerRight.mono _ _ _ _ _ _ _ _ _ _
      | exact laws_logSmall.mono _ _
      | exact laws_zzFits2.mono _ _
      | exact LeO.none _
      | refine LeO.ite ?_ ?_
      | refine LeO.bind ?_ (fun _ => ?_)
    · intro y0 y1 y2 y3 y4 y5 y6 y7 y8 y9 y10
      unfold laws_FnChainsInParts.j4
      repeat' first
      | (with_reducible exact ih0 _ _ _ _ _ _ _ _ _ _ _)
      | (with_reducible exact ih1 _ _ _ _ _ _ _ _ _ _)
      | (with_reducible exact ih2 _ _ _ _ _ _ _ _ _ _ _ _)
      | (with_reducible exact ih3 _ _ _ _ _ _ _ _ _ _ _)
      | (with_reducible exact ih4 _ _ _ _ _ _ _ _ _ _ _)
      | (with_reducible exact ih5 _ _ _ _ _ _ _ _ _ _)
      | (with_reducible exact impl_ChainBorder.mono _ _ _ _ _ _ _ _ _)
      | (with_reducible exact impl_ChainInner.mono _ _ _ _ _ _ _ _ _ _)
      | (with_reducible exact impl_ChainInnerRight.mono _ _ _ _ _ _ _ _ _ _)
      | (with_reducible exact laws_logSmall.mono _ _)
      | (with_reducible exact laws_zzFits2.mono _ _)
      | (with_reducible exact LeO.refl _)
      | (with_reducible exact LeO.none _)
      | (with_reducible refine LeO.ite ?_ ?_)
      | (with_reducible refine LeO.bind ?_ (fun _ => ?_))
      | exact ih0 _ _ _ _ _ _ _ _ _ _ _
      | exact ih1 _ _ _ _ _ _ _ _ _ _
      | exact ih2 _ _ _ _ _ _ _ _ _ _ _ _
      | exact ih3 _ _ _ _ _ _ _ _ _ _ _
      | exact ih4 _ _ _ _ _ _ _ _ _ _ _
      | exact ih5 _ _ _ _ _ _ _ _ _ _
      | exact impl_ChainBorder.mono _ _ _ _ _ _ _ _ _
      | exact impl_ChainInner.mono _ _ _ _ _ _ _ _ _ _
      | exact impl_ChainInnerRight.mono _ _ _ _ _ _ _ _ _ _
      | exact laws_logSmall.mono _ _
      | exact laws_zzFits2.mono _ _
      | exact LeO.none _
      | refine LeO.ite ?_ ?_
      | refine LeO.bind ?_ (fun _ => ?_)
    intro y0 y1 y2 y3 y4 y5 y6 y7 y8 y9
    unfold laws_FnChainsInParts.j5
    repeat' first
    | (with_reducible exact ih0 _ _ _ _ _ _ _ _ _ _ _)
    | (with_reducible exact ih1 _ _ _ _ _ _ _ _ _ _)
    | (with_reducible exact ih2 _ _ _ _ _ _ _ _ _ _ _ _)
    | (with_reducible exact ih3 _ _ _ _ _ _ _ _ _ _ _)
    | (with_reducible exact ih4 _ _ _ _ _ _ _ _ _ _ _)
    | (with_reducible exact ih5 _ _ _ _ _ _ _ _ _ _)
    | (with_reducible exact impl_ChainBorder.mono _ _ _ _ _ _ _ _ _)
    | (with_reducible exact impl_ChainInner.mono _ _ _ _ _ _ _ _ _ _)
    | (with_reducible exact impl_ChainInnerRight.mono _ _ _ _ _ _ _ _ _ _)
    | (with_reducible exact laws_logSmall.mono _ _)
    | (with_reducible exact laws_zzFits2.mono _ _)
    | (with_reducible exact LeO.refl _)
    | (with_reducible exact LeO.none _)
    | (with_reducible refine LeO.ite ?_ ?_)
    | (with_reducible refine LeO.bind ?_ (fun _ => ?_))
    | exact ih0 _ _ _ _ _ _ _ _ _ _ _
    | exact ih1 _ _ _ _ _ _ _ _ _ _
    | exact ih2 _ _ _ _ _ _ _ _ _ _ _ _
    | exact ih3 _ _ _ _ _ _ _ _ _ _ _
    | exact ih4 _ _ _ _ _ _ _ _ _ _ _
    | exact ih5 _ _ _ _ _ _ _ _ _ _
    | exact impl_ChainBorder.mono _ _ _ _ _ _ _ _ _
    | exact impl_ChainInner.mono _ _ _ _ _ _ _ _ _ _
    | exact impl_ChainInnerRight.mono _ _ _ _ _ _ _ _ _ _
    | exact laws_logSmall.mono _ _
    | exact laws_zzFits2.mono _ _
    | exact LeO.none _
    | refine LeO.ite ?_ ?_
    | refine LeO.bind ?_ (fun _ => ?_)
theorem laws_FnChainsInParts.mono : ∀ a0 a1 a2 a3 a4 a5 a6 a7 a8 a9 k, LeO (laws_FnChainsInParts.f k a0 a1 a2 a3 a4 a5 a6 a7 a8 a9) (laws_FnChainsInParts.f (k + 1) a0 a1 a2 a3 a4 a5 a6 a7 a8 a9) := by
  intro a0 a1 a2 a3 a4 a5 a6 a7 a8 a9 k
  obtain ⟨ih0, ih1, ih2, ih3, ih4, ih5⟩ := laws_FnChainsInParts.mono_l k
  unfold laws_FnChainsInParts.f
  repeat' first
      | (with_reducible exact ih0 _ _ _ _ _ _ _ _ _ _ _)
      | (with_reducible exact ih1 _ _ _ _ _ _ _ _ _ _)
      | (with_reducible exact ih2 _ _ _ _ _ _ _ _ _ _ _ _)
      | (with_reducible exact ih3 _ _ _ _ _ _ _ _ _ _ _)
      | (with_reducible exact ih4 _ _ _ _ _ _ _ _ _ _ _)
      | (with_reducible exact ih5 _ _ _ _ _ _ _ _ _ _)
      | (with_reducible exact impl_ChainBorder.mono _ _ _ _ _ _ _ _ _)
      | (with_reducible exact impl_ChainInner.mono _ _ _ _ _ _ _ _ _ _)
      | (with_reducible exact impl_ChainInnerRight.mono _ _ _ _ _ _ _ _ _ _)
      | (with_reducible exact laws_logSmall.mono _ _)
      | (with_reducible exact laws_zzFits2.mono _ _)
      | (with_reducible exact LeO.refl _)
      | (with_reducible exact LeO.none _)
      | (with_reducible refine LeO.ite ?_ ?_)
      | (with_reducible refine LeO.bind ?_ (fun _ => ?_))
      | exact ih0 _ _ _ _ _ _ _ _ _ _ _
      | exact ih1 _ _ _ _ _ _ _ _ _ _
      | exact ih2 _ _ _ _ _ _ _ _ _ _ _ _
      | exact ih3 _ _ _ _ _ _ _ _ _ _ _
      | exact ih4 _ _ _ _ _ _ _ _ _ _ _
      | exact ih5 _ _ _ _ _ _ _ _ _ _
      | exact impl_ChainBorder.mono _ _ _ _ _ _ _ _ _
      | exact impl_ChainInner.mono _ _ _ _ _ _ _ _ _ _
      | exact impl_ChainInnerRight.mono _ _ _ _ _ _ _ _ _ _
      | exact laws_logSmall.mono _ _
      | exact laws_zzFits2.mono _ _
      | exact LeO.none _
      | refine LeO.ite ?_ ?_
      | refine LeO.bind ?_ (fun _ => ?_)
def laws_FnChainsInParts.T6 : Bool × List (List Nat × List Nat) := (true, [([], []), ([], []), ([], []), ([], []), ([0, 1, 2, 3], [0, 1, 2, 3]), ([], []), ([], []), ([], []), ([], []), ([], []), ([6, 7, 8, 9, 4], [6, 7, 8, 9]), ([], []), ([], []), ([], []), ([13], [13]), ([12, 14], [12, 14]), ([5, 10, 11, 15, 10], [5, 10, 11, 15]), ([4, 16, 16], [4, 16]), ([17], [17])])
def laws_FnChainsInParts.B6 : List Nat := [0, 0, 0, 0, 15, 0, 0, 0, 0, 0, 991, 0, 0, 0, 8192, 28672, 65535, 131071, 262143]
theorem laws_FnChainsInParts.tab6 : rtab .any (opsOf Try.f3 6) = laws_FnChainsInParts.T6 := by kernel_rfl
theorem laws_FnChainsInParts.bits6 : waitsOk laws_FnChainsInParts.T6.2 laws_FnChainsInParts.B6 = true := by kernel_rfl
def laws_FnChainsInParts.T8 : Bool × List (List Nat × List Nat) := (true, [([], []), ([], []), ([], []), ([], []), ([0, 1, 2, 3], [0, 1, 2, 3]), ([], []), ([], []), ([], []), ([], []), ([], []), ([6, 7, 8, 9, 4], [6, 7, 8, 9]), ([], []), ([], []), ([], []), ([13], [13]), ([12, 14], [12, 14]), ([5, 10, 11, 15, 10], [5, 10, 11, 15]), ([4, 16, 16], [4, 16]), ([17], [17])])
def laws_FnChainsInParts.B8 : List Nat := [0, 0, 0, 0, 15, 0, 0, 0, 0, 0, 991, 0, 0, 0, 8192, 28672, 65535, 131071, 262143]
theorem laws_FnChainsInParts.tab8 : rtab .any (opsOf Try.f3 8) = laws_FnChainsInParts.T8 := by kernel_rfl
theorem laws_FnChainsInParts.bits8 : waitsOk laws_FnChainsInParts.T8.2 laws_FnChainsInParts.B8 = true := by kernel_rfl
def laws_FnChainsInParts.T11 : Bool × List (List Nat × List Nat) := (true, [([], []), ([], []), ([], []), ([], []), ([], []), ([2, 3, 4], [2, 3, 4]), ([], []), ([1, 5, 6, 5], [1, 5, 6]), ([0, 7, 7], [0, 7]), ([8, 8], [8]), ([9], [9]), ([9], [9]), ([9], [9]), ([9], [9]), ([11, 12, 13, 9, 9], [9, 11, 12, 13]), ([10, 14, 14, 9], [9, 10, 14]), ([9, 15], [9, 15]), ([16, 15], [16]), ([17], [17]), ([17], [17]), ([17], [17]), ([17], [17]), ([19, 20, 21, 17, 17], [17, 19, 20, 21]), ([18, 22, 22, 17], [17, 18, 22]), ([17, 23], [17, 23]), ([24, 23], [24]), ([25], [25]), ([25], [25]), ([25], [25]), ([26, 27, 28, 25, 25], [25, 26, 27, 28]), ([25], [25]), ([29, 30, 29, 25], [25, 29, 30]), ([25, 31], [25, 31]), ([32, 31, 0, 1, 2, 3, 4, 5, 6, 7, 8, 9, 10, 11, 12, 13, 14, 15, 16, 17, 18, 19, 20, 21, 22, 23, 24, 25, 26, 27, 28, 29, 30, 31, 32], [32])])
def laws_FnChainsInParts.B11 : List Nat := [0, 0, 0, 0, 0, 28, 0, 126, 255, 511, 1023, 1023, 1023, 1023, 15359, 32767, 65535, 131071, 262143, 262143, 262143, 262143, 3932159, 8388607, 16777215, 33554431, 67108863, 67108863, 67108863, 536870911, 67108863, 2147483647, 4294967295, 8589934591]
theorem laws_FnChainsInParts.tab11 : rtab .any (opsOf Try.f3 11) = laws_FnChainsInParts.T11 := by kernel_rfl
theorem laws_FnChainsInParts.bits11 : waitsOk laws_FnChainsInParts.T11.2 laws_FnChainsInParts.B11 = true := by kernel_rfl

end Go.Proofs.Ytijldedhcjkhiaa.X
