import Derived.Test.YtijldedhcjkhiaaDoorSTT0
import Derived.Test.YtijldedhcjkhiaaDoorSTT3
import Derived.Test.YtijldedhcjkhiaaDoorSTT4
namespace Go.Proofs.YtijldedhcjkhiaaDoor.T
open Go.RowKit Go.Proofs.YtijldedhcjkhiaaDoorW.PrintWords Go.Proofs.YtijldedhcjkhiaaDoorW.PrintLast Go.Proofs.YtijldedhcjkhiaaDoorW.PrintMore
attribute [local go_sem] max2_int min2_int max_two min_two max_three min_three max_four min_four   -- for this text's walks alone
set_option linter.unusedVariables false
set_option linter.unusedSimpArgs false
def impl_RootOfInclusion.f (k : Nat) (a0_0 : Int) (a0_1 : Int) (a0_2 : Int) (a0_3 : Int) (a0_4 : Int) (a0_5 : Int) (a1 : Int) (a2 : Int) (l3 : List Int) (l4 : List (List Int)) : Option (List Int × Bool) := (some (([] : List Int) : List Int)).bind fun y205 => (if y205.length + l3.length < 140737488355328 then ((impl_texts.f k l4).bind fun t211 => ((proof_RootFromInclusionProof.f k a0_0 a0_1 a0_2 a0_3 a0_4 a0_5 a1 a2 (y205 ++ l3) t211).bind fun bt214 => (if bt214.2.isNone = true then (some (bt214.1, true)) else (some (bt214.1, false))))) else (none))
theorem impl_RootOfInclusion.mono : ∀ a0 a1 a2 a3 a4 a5 a6 a7 a8 a9 k, LeO (impl_RootOfInclusion.f k a0 a1 a2 a3 a4 a5 a6 a7 a8 a9) (impl_RootOfInclusion.f (k + 1) a0 a1 a2 a3 a4 a5 a6 a7 a8 a9) := by
  intro a0 a1 a2 a3 a4 a5 a6 a7 a8 a9 k
  unfold impl_RootOfInclusion.f
  repeat' first
      | (with_reducible exact impl_texts.mono _ _)
      | (with_reducible exact proof_RootFromInclusionProof.mono _ _ _ _ _ _ _ _ _ _ _)
      | (with_reducible exact LeO.refl _)
      | (with_reducible exact LeO.none _)
      | (with_reducible refine LeO.ite ?_ ?_)
      | (with_reducible refine LeO.bind ?_ (fun _ => ?_))
      | exact impl_texts.mono _ _
      | exact proof_RootFromInclusionProof.mono _ _ _ _ _ _ _ _ _ _ _
      | exact LeO.none _
      | refine LeO.ite ?_ ?_
      | refine LeO.bind ?_ (fun _ => ?_)
def impl_RootOfInclusion.T1 : Bool × List (List Nat × List Nat) := (true, [([], []), ([0], [0]), ([1], [1]), ([], []), ([], []), ([], []), ([], []), ([5, 6], [5, 6]), ([], []), ([8, 7], [8]), ([2, 3, 4, 7, 9, 9], [2, 3, 4, 7, 9]), ([10], [10]), ([11], [11]), ([11], [11]), ([12, 10, 0, 1, 2, 3, 4, 5, 6, 7, 8, 9, 10, 11, 12], [12]), ([13, 14, 0, 1, 2, 3, 4, 5, 6, 7, 8, 9, 10, 11, 12, 13, 14], [13])])
def impl_RootOfInclusion.B1 : List Nat := [0, 1, 3, 0, 0, 0, 0, 96, 0, 480, 1023, 2047, 4095, 4095, 8191, 32767]
theorem impl_RootOfInclusion.tab1 : rtab .any (opsOf Tryd.f50 1) = impl_RootOfInclusion.T1 := by kernel_rfl
theorem impl_RootOfInclusion.bits1 : waitsOk impl_RootOfInclusion.T1.2 impl_RootOfInclusion.B1 = true := by kernel_rfl
set_option maxHeartbeats 8000000 in
set_option maxRecDepth 100000 in
theorem impl_RootOfInclusion.calls (k : Nat) (a0_0 : Int) (a0_1 : Int) (a0_2 : Int) (a0_3 : Int) (a0_4 : Int) (a0_5 : Int) (a1 : Int) (a2 : Int) (A3 : Option Addr) (c3 : Nat) (l3 : List Int) (A4 : Option Addr) (c4 : Nat) (l4 : List (List Int)) (r1 : List Int) (r2 : Bool) (w : World) (hr3 : Kd.C (Kd.int .u8) w A3 l3.length l3) (hc3 : l3.length ≤ c3) (hr4 : Kd.C (Kd.slice 5 (Kd.int .u8)) w A4 l4.length l4) (hc4 : l4.length ≤ c4) (h : impl_RootOfInclusion.f k a0_0 a0_1 a0_2 a0_3 a0_4 a0_5 a1 a2 l3 l4 = some (r1, r2)) :
    Calls Tryd.prog 50 #[.agg #[.int .i64 a0_0, .int .i64 a0_1, .int .i64 a0_2, .int .u64 a0_3, .int .u64 a0_4, .int .u64 a0_5], .int .u64 a1, .int .u64 a2, .slice A3 l3.length c3, .slice A4 l4.length c4] w fun e w' => ∃ v0_ : Value, e = .returned (.tuple #[v0_, .bool r2]) ∧ Kd.V (Kd.int .u8) 5 w' w.heap.size (fun k_ => (w.heap.size ≤ k_)) v0_ r1 ∧ Below w.heap.size w w' := by
  have hu37 := Tryd.underlying37
  have hu114 := Tryd.underlying114
  have hu120 := Tryd.underlying120
  have HR3 := Aside0.mk hr3
  have HC3 := Aside0.mk hc3
  clear hr3 hc3
  have HR4 := Aside0.mk hr4
  have HC4 := Aside0.mk hc4
  clear hr4 hc4
  have HB := Aside0.mk (Below.refl w.heap.size w)
  have H : ((some (([] : List Int) : List Int)).bind fun y205 => (if y205.length + l3.length < 140737488355328 then ((impl_texts.f k l4).bind fun t211 => ((proof_RootFromInclusionProof.f k a0_0 a0_1 a0_2 a0_3 a0_4 a0_5 a1 a2 (y205 ++ l3) t211).bind fun bt214 => (if bt214.2.isNone = true then (some (bt214.1, true)) else (some (bt214.1, false))))) else (none))) = some (r1, r2) := h
  clear h
  obtain ⟨y205, hy205⟩ : ∃ y_ : List Int, y_ = (([] : List Int)) := ⟨_, rfl⟩
  replace H : (if y205.length + l3.length < 140737488355328 then ((impl_texts.f k l4).bind fun t211 => ((proof_RootFromInclusionProof.f k a0_0 a0_1 a0_2 a0_3 a0_4 a0_5 a1 a2 (y205 ++ l3) t211).bind fun bt214 => (if bt214.2.isNone = true then (some (bt214.1, true)) else (some (bt214.1, false))))) else (none)) = some (r1, r2) := by first | (rw [hy205]; with_reducible exact H) | (have H2_ := (Option.bind_some _ _).symm.trans H; rw [hy205]; with_reducible exact H2_) | (have H2_ := (Option.bind_some _ _).symm.trans H; with_reducible exact H2_) | with_reducible exact H | (rw [hy205]; exact H) | exact H
  have Ny205 := Aside0.mk hy205
  clear hy205
  by_cases c6 : y205.length + l3.length < 140737488355328
  · rw [if_pos c6] at H
    have LMc6 := Aside0.mk c6
    clear c6
    obtain ⟨y208, hy208⟩ : ∃ y_ : List Int, y_ = (y205 ++ l3) := ⟨_, rfl⟩
    replace H : ((impl_texts.f k l4).bind fun t211 => ((proof_RootFromInclusionProof.f k a0_0 a0_1 a0_2 a0_3 a0_4 a0_5 a1 a2 y208 t211).bind fun bt214 => (if bt214.2.isNone = true then (some (bt214.1, true)) else (some (bt214.1, false))))) = some (r1, r2) := by first | (rw [hy208]; with_reducible exact H) | (have H2_ := (Option.bind_some _ _).symm.trans H; rw [hy208]; with_reducible exact H2_) | (have H2_ := (Option.bind_some _ _).symm.trans H; with_reducible exact H2_) | with_reducible exact H | (rw [hy208]; exact H) | exact H
    have Ny208 := Aside0.mk hy208
    clear hy208
    replace H := Option.bind_eq_some_iff.mp H
    obtain ⟨t211, A70, H⟩ := H
    replace H : ((proof_RootFromInclusionProof.f k a0_0 a0_1 a0_2 a0_3 a0_4 a0_5 a1 a2 y208 t211).bind fun bt214 => (if bt214.2.isNone = true then (some (bt214.1, true)) else (some (bt214.1, false)))) = some (r1, r2) := H
    have A7 := Aside0.mk A70
    clear A70
    replace H := Option.bind_eq_some_iff.mp H
    obtain ⟨⟨t214, t217⟩, A80, H⟩ := H
    replace H : (if t217.isNone = true then (some (t214, true)) else (some (t214, false))) = some (r1, r2) := H
    have A8 := Aside0.mk A80
    clear A80
    rcases t217 with _ | q219
    · have H1 : (some (t214, true)) = some (r1, r2) := by rw [if_pos (show (none : Option Int).isNone = true by rfl)] at H; exact H
      clear H
      have H := H1
      clear H1
      try simp only [errW_none, errW_some]
      simp only [Option.some.injEq, Prod.mk.injEq] at H
      obtain ⟨rfl, rfl⟩ := H
      go_enter Tryd.func50, Tryd.ntmps50
      try go_wp2_with (first | ((with_reducible refine gate_dst (N := 5) rfl ?_); refine box_event ?hg (N := 5) ?hd (cs := #[.int .i64 a0_0, .int .i64 a0_1, .int .i64 a0_2, .int .u64 a0_3, .int .u64 a0_4, .int .u64 a0_5]) (t := 37) ?hr ?_; (case hd => rfl); (case hg => rfl); (case hr => first | (go_simp; done) | (go_simp; rfl)); intro gb204 hg w9 hbox hb; have n0_ := Aside0.mk (below_step (by repeat (first | (with_reducible first | exact HB.out | apply below_alloc | apply pw_below_drewN | apply below_drew1) | exact HB.out)) hb); have n1_ := Aside0.mk (hbox); have n2_ := Aside0.mk ((by rw [hg]; exact (below_size (by repeat (first | (with_reducible first | exact HB.out | apply below_alloc | apply pw_below_drewN | apply below_drew1) | exact HB.out))) : w.heap.size ≤ gb204)); have n3_ := Aside0.mk ((by rw [hg]; exact (below_size (by repeat (first | (with_reducible first | exact HB.out | apply below_alloc | apply pw_below_drewN | apply below_drew1) | exact HB.out))) : w.heap.size ≤ gb204)); clear HB; have HB := n0_; have BK204 := n1_; have GW204 := n2_; have GE204 := n3_; clear n0_ n1_ n2_ n3_; clear hb hbox hg))
      have n0_ := Aside0.mk (blk_drew BK204.out)
      have n1_ := Aside0.mk (below_drew1 HB.out)
      clear BK204
      clear HB
      have BK204 := n0_
      have HB := n1_
      clear n0_ n1_
      refine start_ (n := 16) (S := fun w' => w'.cell? ⟨gb204, 0, none⟩ = some (.int .i64 a0_0) ∧ w'.cell? ⟨gb204, 1, none⟩ = some (.int .i64 a0_1) ∧ w'.cell? ⟨gb204, 2, none⟩ = some (.int .i64 a0_2) ∧ w'.cell? ⟨gb204, 3, none⟩ = some (.int .u64 a0_3) ∧ w'.cell? ⟨gb204, 4, none⟩ = some (.int .u64 a0_4) ∧ w'.cell? ⟨gb204, 5, none⟩ = some (.int .u64 a0_5)) (ds := []) #[false, false, false, false, false, false, false, false, false, false, false, false, false, false, false, false] (by kernel_rfl) rfl rfl ⟨(blk_cell BK204.out 0).trans rfl, (blk_cell BK204.out 1).trans rfl, (blk_cell BK204.out 2).trans rfl, (blk_cell BK204.out 3).trans rfl, (blk_cell BK204.out 4).trans rfl, (blk_cell BK204.out 5).trans rfl⟩ (fun hHeld => ?_); refine with_tabW impl_RootOfInclusion.tab1 impl_RootOfInclusion.bits1 (fun HT_ HW_ => ?_)
      generalize w9.drew = w10 at BK204 HB hHeld ⊢
      refine pure_ (i := 3) (N := some 18) (v := ?_) (a' := ?_) #[false, false, false, true, false, false, false, false, false, false, false, false, false, false, false, false] rfl rfl (any_of HT_.out (by kernel_rfl)) (fun _ _ _ h => h) (Or.inl ⟨by rfl, ?_⟩) ?_ ?_
      rotate_left
      · intro w'
        go_simp
        with_reducible rfl
      rotate_left
      · simp only [Act.put, List.setIfInBounds_toArray, List.set_cons_zero, List.set_cons_succ, i64_w, i32_w]
        rfl
      refine pure_ (i := 4) (N := some 19) (v := ?_) (a' := ?_) #[false, false, false, true, true, false, false, false, false, false, false, false, false, false, false, false] rfl rfl (any_of HT_.out (by kernel_rfl)) (fun _ _ _ h => h) (Or.inl ⟨by rfl, ?_⟩) ?_ ?_
      rotate_left
      · intro w'
        go_simp
        with_reducible rfl
      rotate_left
      · simp only [Act.put, List.setIfInBounds_toArray, List.set_cons_zero, List.set_cons_succ, i64_w, i32_w]
        rfl
      refine pure_ (i := 6) (N := some 21) (v := ?_) (a' := ?_) #[false, false, false, true, true, false, true, false, false, false, false, false, false, false, false, false] rfl rfl (any_of HT_.out (by kernel_rfl)) (fun _ _ _ h => h) (Or.inl ⟨by rfl, ?_⟩) ?_ ?_
      rotate_left
      · intro w'
        go_simp
        with_reducible rfl
      rotate_left
      · simp only [Act.put, List.setIfInBounds_toArray, List.set_cons_zero, List.set_cons_succ, i64_w, i32_w]
        rfl
      refine pure_ (i := 8) (N := some 23) (v := ?_) (a' := ?_) #[false, false, false, true, true, false, true, false, true, false, false, false, false, false, false, false] rfl rfl (any_of HT_.out (by kernel_rfl)) (fun _ _ _ h => h) (Or.inl ⟨by rfl, ?_⟩) ?_ ?_
      rotate_left
      · intro w'
        go_simp
        with_reducible rfl
      rotate_left
      · simp only [Act.put, List.setIfInBounds_toArray, List.set_cons_zero, List.set_cons_succ, i64_w, i32_w]
        rfl
      refine take_ (i := 0) (N := some 15) (v := ?_) (a' := ?_) #[true, false, false, true, true, false, true, false, true, false, false, false, false, false, false, false] rfl rfl (take_ofW HT_.out HW_.out (by kernel_rfl)) (fun _ _ _ h => h) (Or.inl ⟨by rfl, ?_⟩) hHeld ?_ ?_
      rotate_left
      · rintro w' ⟨s0, s1, s2, s3, s4, s5⟩
        go_simp
        with_reducible rfl
      rotate_left
      · simp only [Act.put, List.setIfInBounds_toArray, List.set_cons_zero, List.set_cons_succ, i64_w, i32_w]
        rfl
      refine pure_ (i := 1) (N := some 16) (v := ?_) (a' := ?_) #[true, true, false, true, true, false, true, false, true, false, false, false, false, false, false, false] rfl rfl (any_of HT_.out (by kernel_rfl)) (fun _ _ _ h => h) (Or.inl ⟨by rfl, ?_⟩) ?_ ?_
      rotate_left
      · intro w'
        go_simp
        with_reducible rfl
      rotate_left
      · simp only [Act.put, List.setIfInBounds_toArray, List.set_cons_zero, List.set_cons_succ, i64_w, i32_w]
        rfl
      refine pure_ (i := 2) (N := some 17) (v := ?_) (a' := ?_) #[true, true, true, true, true, false, true, false, true, false, false, false, false, false, false, false] rfl rfl (any_of HT_.out (by kernel_rfl)) (fun _ _ _ h => h) (Or.inl ⟨by rfl, ?_⟩) ?_ ?_
      rotate_left
      · intro w'
        go_simp
        with_reducible rfl
      rotate_left
      · simp only [Act.put, List.setIfInBounds_toArray, List.set_cons_zero, List.set_cons_succ, i64_w, i32_w]
        rfl
      refine one_ (i := 5) (N := some 20) #[true, true, true, true, true, true, true, false, true, false, false, false, false, false, false, false] rfl rfl (one_of HT_.out (by kernel_rfl)) (by decide) (fun K hK => ?_)
      refine Kd.R_lit_step (Kd.int .u8) _ 5 ?hg (N := 20) ?hd (xs := ([] : List Int)) (inner := []) (ok := fun _ => True) (okp := fun _ => True) ?hr ?hp (fun _ hk => hk) trivial (Below.refl _ _) (Nat.le_refl _) (by simp) ?_; (case hd => rfl); (case hg => rfl); (case hr => first | (go_simp; done) | (go_simp; rfl)); (case hp => exact (Reps.none _ _))
      intro v206 w11 ho12 hb hg_ hnew_
      clear hg_ hnew_
      (first | rw [← Ny205.out] at ho12 | (simp only [Int.reduceToNat] at ho12; rw [← Ny205.out] at ho12))
      have n0_ := Aside0.mk (Kd.R_lower (Kd.R_newM (M := fun k_ => (w.heap.size ≤ k_)) ho12 (below_size (by repeat (first | (with_reducible first | exact HB.out | apply below_alloc | apply pw_below_drewN | apply below_drew1 | refine below_set ?_ GE204.out) | exact HB.out))) (fun k_ h_ => h_)) (below_size (by repeat (first | (with_reducible first | exact HB.out | apply below_alloc | apply pw_below_drewN | apply below_drew1 | refine below_set ?_ GE204.out) | exact HB.out))))
      have n1_ := Aside0.mk (blk_below (g := gb204) (o := .cells #[.int .i64 a0_0, .int .i64 a0_1, .int .i64 a0_2, .int .u64 a0_3, .int .u64 a0_4, .int .u64 a0_5] 37 (0, 0)) (by (with_reducible repeat (first | refine blk_drewN ?_ _ | refine blk_drew ?_ | refine blk_alloc ?_ _)); exact BK204.out) hb)
      have n2_ := Aside0.mk (below_step (by repeat (first | (with_reducible first | exact HB.out | apply below_alloc | apply pw_below_drewN | apply below_drew1 | refine below_set ?_ GE204.out) | exact HB.out)) hb)
      clear BK204
      clear HB
      have HO207 := n0_
      have BK204 := n1_
      have HB := n2_
      clear n0_ n1_ n2_
      clear hb ho12
      refine hK.out _ _ ⟨(blk_cell BK204.out 0).trans rfl, (blk_cell BK204.out 1).trans rfl, (blk_cell BK204.out 2).trans rfl, (blk_cell BK204.out 3).trans rfl, (blk_cell BK204.out 4).trans rfl, (blk_cell BK204.out 5).trans rfl⟩ (fun hHeld => ?_)
      clear hK K
      refine norm_ (a' := ?_) ?_ ?_
      rotate_left
      · show Act.put _ (some 20) _ = _
        simp only [Act.put, List.setIfInBounds_toArray, List.set_cons_zero, List.set_cons_succ, i64_w, i32_w]
        rfl
      refine one_ (i := 7) (N := some 22) #[true, true, true, true, true, true, true, true, true, false, false, false, false, false, false, false] rfl rfl (one_of HT_.out (by kernel_rfl)) (by decide) (fun K hK => ?_)
      refine Kd.R_append_rows_step (Kd.int .u8) (w0 := w) w.heap.size (by rfl) (.tmp 20) (.tmp 21) 42 5 (.int .u8 0) 1 rfl Tryd.underlying42 info5 rfl (by decide) (by omega) v206 y205 l3 _ _ _ (fun k_ => (w.heap.size ≤ k_)) (fun _ => False) rfl rfl ?aO ?aR (fun _ _ h => h) (fun _ h => h.elim) ?aF ?aB ?aS ?aL ?_
      (case aR => repeat (first | exact (Kd.C_below HR3.out HB.out) | (with_reducible refine Kd.C_alloc ?_ _) | (with_reducible refine Kd.C_drewN ?_ _) | (with_reducible refine Kd.C_drew ?_)))
      (case aB => exact (by repeat (first | (with_reducible first | exact HB.out | apply below_alloc | apply pw_below_drewN | apply below_drew1 | refine below_set ?_ GE204.out) | exact HB.out)))
      (case aF => exact (fun k_ hk => (Nat.le_trans (below_size (by repeat (first | (with_reducible first | exact HB.out | apply below_alloc | apply pw_below_drewN | apply below_drew1 | refine below_set ?_ GE204.out) | exact HB.out))) hk)))
      (case aO => exact (by (with_reducible repeat (first | apply Kd.R_alloc | apply Kd.R_drewN | apply Kd.R_drew)); exact Kd.R_mono HO207.out (fun _ hk => hk.1)))
      (case aS => exact (below_size (by repeat (first | (with_reducible first | exact HB.out | apply below_alloc | apply pw_below_drewN | apply below_drew1 | refine below_set ?_ GE204.out) | exact HB.out))))
      (case aL => have := LMc6.out; omega)
      intro v209 w13 ho hb hg hat
      rw [← Ny208.out] at ho
      have n0_ := Aside0.mk (blk_grown (g := gb204) (o := .cells #[.int .i64 a0_0, .int .i64 a0_1, .int .i64 a0_2, .int .u64 a0_3, .int .u64 a0_4, .int .u64 a0_5] 37 (0, 0)) (by (with_reducible repeat (first | refine blk_drewN ?_ _ | refine blk_drew ?_ | refine blk_alloc ?_ _)); exact BK204.out) hg (Kd.R_ne HO207.out BK204.out (by decide)))
      have n1_ := Aside0.mk (hb)
      have n2_ := Aside0.mk (ho)
      clear BK204
      clear HB
      clear HO207
      have BK204 := n0_
      have HB := n1_
      have HO210 := n2_
      clear n0_ n1_ n2_
      clear ho hb hg hat
      refine hK.out _ _ ⟨(blk_cell BK204.out 0).trans rfl, (blk_cell BK204.out 1).trans rfl, (blk_cell BK204.out 2).trans rfl, (blk_cell BK204.out 3).trans rfl, (blk_cell BK204.out 4).trans rfl, (blk_cell BK204.out 5).trans rfl⟩ (fun hHeld => ?_)
      clear hK K
      refine norm_ (a' := ?_) ?_ ?_
      rotate_left
      · show Act.put _ (some 22) _ = _
        simp only [Act.put, List.setIfInBounds_toArray, List.set_cons_zero, List.set_cons_succ, i64_w, i32_w]
        rfl
      refine one_ (i := 9) (N := some 24) #[true, true, true, true, true, true, true, true, true, true, false, false, false, false, false, false] rfl rfl (one_of HT_.out (by kernel_rfl)) (by decide) (fun K hK => ?_)
      refine goes_ Tryd.func70 (by kernel_rfl) rfl #[.slice A4 l4.length c4] (by rfl) rfl rfl (by (try simp only [List.map_toArray, List.map_cons, List.map_nil]); first | done | rfl | (simp only [List.length_drop, List.length_take]; rfl)) ?_
      with_reducible refine (impl_texts.calls k _ _ l4 t211 _ ?side1 ?side2 A7.out).mono ?_
      (case side1 => repeat (first | exact (Kd.C_below HR4.out HB.out) | (with_reducible refine Kd.C_alloc ?_ _) | (with_reducible refine Kd.C_drewN ?_ _) | (with_reducible refine Kd.C_drew ?_)))
      (case side2 => exact HC4.out)
      rintro e w14 ⟨v212, rfl, ho0, hb⟩
      refine ⟨_, rfl, ?_⟩
      have n0_ := Aside0.mk (Kd.R_below (by (with_reducible repeat (first | apply Kd.R_alloc | apply Kd.R_drewN | apply Kd.R_drew)); exact HO210.out) hb)
      have n1_ := Aside0.mk (Kd.S_lower (Kd.S_new' (Kd.S_newM (M := fun k_ => (w.heap.size ≤ k_)) ho0 (below_size (by repeat (first | (with_reducible first | exact HB.out | apply below_alloc | apply pw_below_drewN | apply below_drew1 | refine below_set ?_ GE204.out) | exact HB.out))) (fun k_ h_ => h_)) (Kd.R_lt (by (with_reducible repeat (first | apply Kd.R_alloc | apply Kd.R_drewN | apply Kd.R_drew)); exact HO210.out))) (below_size (by repeat (first | (with_reducible first | exact HB.out | apply below_alloc | apply pw_below_drewN | apply below_drew1 | refine below_set ?_ GE204.out) | exact HB.out))))
      have n2_ := Aside0.mk (blk_below (g := gb204) (o := .cells #[.int .i64 a0_0, .int .i64 a0_1, .int .i64 a0_2, .int .u64 a0_3, .int .u64 a0_4, .int .u64 a0_5] 37 (0, 0)) (by (with_reducible repeat (first | refine blk_drewN ?_ _ | refine blk_drew ?_ | refine blk_alloc ?_ _)); exact BK204.out) hb)
      have n3_ := Aside0.mk (below_step (by repeat (first | (with_reducible first | exact HB.out | apply below_alloc | apply pw_below_drewN | apply below_drew1 | refine below_set ?_ GE204.out) | exact HB.out)) hb)
      clear HO210
      clear BK204
      clear HB
      have HO210 := n0_
      have HO213 := n1_
      have BK204 := n2_
      have HB := n3_
      clear n0_ n1_ n2_ n3_
      (try clear hb)
      (try clear hb2)
      (try clear hk)
      (try clear hi)
      (try clear ho0)
      obtain ⟨Ao15, co15, eo15⟩ := Kd.R_slice HO210.out
      (first | subst eo15 | (injection eo15 with f1_ f2_ f3_; have f4_ := f1_.symm; have f5_ := f3_.symm; clear f1_ f2_ f3_; subst f4_; subst f5_))
      obtain ⟨Ao16, co16, eo16⟩ := Kd.S_slice HO213.out
      (first | subst eo16 | (injection eo16 with f1_ f2_ f3_; have f4_ := f1_.symm; have f5_ := f3_.symm; clear f1_ f2_ f3_; subst f4_; subst f5_))
      refine hK.out _ _ ⟨(blk_cell BK204.out 0).trans rfl, (blk_cell BK204.out 1).trans rfl, (blk_cell BK204.out 2).trans rfl, (blk_cell BK204.out 3).trans rfl, (blk_cell BK204.out 4).trans rfl, (blk_cell BK204.out 5).trans rfl⟩ (fun hHeld => ?_)
      clear hK K
      refine norm_ (a' := ?_) ?_ ?_
      rotate_left
      · show Act.put _ (some 24) _ = _
        simp only [Act.put, List.setIfInBounds_toArray, List.set_cons_zero, List.set_cons_succ, i64_w, i32_w]
        rfl
      refine one_ (i := 10) (N := some 25) #[true, true, true, true, true, true, true, true, true, true, true, false, false, false, false, false] rfl rfl (one_of HT_.out (by kernel_rfl)) (by decide) (fun K hK => ?_)
      refine goes_ Tryd.func102 (by kernel_rfl) rfl #[.iface 114 (.agg #[.int .i64 a0_0, .int .i64 a0_1, .int .i64 a0_2, .int .u64 a0_3, .int .u64 a0_4, .int .u64 a0_5]), .int .u64 a1, .int .u64 a2, .slice Ao15 y208.length co15, .slice Ao16 t211.length co16] (by rfl) rfl rfl (by (try simp only [List.map_toArray, List.map_cons, List.map_nil]); first | done | rfl | (simp only [List.length_drop, List.length_take]; rfl)) ?_
      with_reducible refine (proof_RootFromInclusionProof.calls k a0_0 a0_1 a0_2 a0_3 a0_4 a0_5 a1 a2 (fun k_ => some k_ = (.slice Ao15 y208.length co15 : Value).ownBlock) _ _ y208 _ _ t211 t214 none _ ?side1 ?side2 ?side3 A8.out).mono ?_
      (case side1 => exact Kd.R_V (Kd.R_tight rfl (Kd.R_types (Kd.R_apart' (HO210.out) (Kd.S_typed HO213.out) (by decide)) BK204.out (by decide))))
      (case side2 => repeat (first | exact (Kd.S_reads' HO213.out).2.2 | (with_reducible refine Kd.C_alloc ?_ _) | (with_reducible refine Kd.C_drewN ?_ _) | (with_reducible refine Kd.C_drew ?_)))
      (case side3 => exact (Kd.S_reads' HO213.out).2.1)
      rintro e w17 ⟨v215, qe218, rfl, ho0, hb⟩
      refine ⟨_, rfl, ?_⟩
      have n0_ := Aside0.mk (Kd.R_below (by (with_reducible repeat (first | apply Kd.R_alloc | apply Kd.R_drewN | apply Kd.R_drew)); exact HO210.out) hb)
      have n1_ := Aside0.mk (Kd.S_below (by (with_reducible repeat (first | apply Kd.S_alloc | apply Kd.S_drewN | apply Kd.S_drew)); exact HO213.out) hb)
      have n2_ := Aside0.mk (Kd.V_lower (Kd.V_mono (ok' := fun k_ => (w.heap.size ≤ k_) ∧ some k_ ≠ (.slice Ao16 t211.length co16 : Value).ownBlock ∧ k_ ≠ gb204) ho0 (fun k_ hk_ => ⟨Or.elim hk_ (fun hs_ => ((Kd.R_types (Kd.R_apart' (HO210.out) (Kd.S_typed HO213.out) (by decide)) BK204.out (by decide)).1 k_ hs_.symm).1.1) (fun hn_ => (Nat.le_trans (below_size (by repeat (first | (with_reducible first | exact HB.out | apply below_alloc | apply pw_below_drewN | apply below_drew1 | refine below_set ?_ GE204.out) | exact HB.out))) hn_)), Or.elim hk_ (fun hs_ => ((Kd.R_types (Kd.R_apart' (HO210.out) (Kd.S_typed HO213.out) (by decide)) BK204.out (by decide)).1 k_ hs_.symm).1.2) (fun hn_ => (Kd.fresh' (Kd.S_lt (by (with_reducible repeat (first | apply Kd.S_alloc | apply Kd.S_drewN | apply Kd.S_drew)); exact HO213.out)) k_ hn_)), Or.elim hk_ (fun hs_ => ((Kd.R_types (Kd.R_apart' (HO210.out) (Kd.S_typed HO213.out) (by decide)) BK204.out (by decide)).1 k_ hs_.symm).2) (fun hn_ => (Kd.freshB (g := gb204) (o := .cells #[.int .i64 a0_0, .int .i64 a0_1, .int .i64 a0_2, .int .u64 a0_3, .int .u64 a0_4, .int .u64 a0_5] 37 (0, 0)) (by (with_reducible repeat (first | refine blk_drewN ?_ _ | refine blk_drew ?_ | refine blk_alloc ?_ _)); exact BK204.out) k_ hn_))⟩)) (below_size (by repeat (first | (with_reducible first | exact HB.out | apply below_alloc | apply pw_below_drewN | apply below_drew1 | refine below_set ?_ GE204.out) | exact HB.out))))
      have n3_ := Aside0.mk (blk_below (g := gb204) (o := .cells #[.int .i64 a0_0, .int .i64 a0_1, .int .i64 a0_2, .int .u64 a0_3, .int .u64 a0_4, .int .u64 a0_5] 37 (0, 0)) (by (with_reducible repeat (first | refine blk_drewN ?_ _ | refine blk_drew ?_ | refine blk_alloc ?_ _)); exact BK204.out) hb)
      have n4_ := Aside0.mk (below_step (by repeat (first | (with_reducible first | exact HB.out | apply below_alloc | apply pw_below_drewN | apply below_drew1 | refine below_set ?_ GE204.out) | exact HB.out)) hb)
      clear HO210
      clear HO213
      clear BK204
      clear HB
      have HO210 := n0_
      have HO213 := n1_
      have HO216 := n2_
      have BK204 := n3_
      have HB := n4_
      clear n0_ n1_ n2_ n3_ n4_
      (try clear hb)
      (try clear hb2)
      (try clear hk)
      (try clear hi)
      (try clear ho0)
      (try simp only [errW_none, errW_some])
      refine hK.out _ _ ⟨(blk_cell BK204.out 0).trans rfl, (blk_cell BK204.out 1).trans rfl, (blk_cell BK204.out 2).trans rfl, (blk_cell BK204.out 3).trans rfl, (blk_cell BK204.out 4).trans rfl, (blk_cell BK204.out 5).trans rfl⟩ (fun hHeld => ?_)
      clear hK K
      refine norm_ (a' := ?_) ?_ ?_
      rotate_left
      · show Act.put _ (some 25) _ = _
        simp only [Act.put, List.setIfInBounds_toArray, List.set_cons_zero, List.set_cons_succ, i64_w, i32_w]
        rfl
      refine pure_ (i := 11) (N := some 14) (v := ?_) (a' := ?_) #[true, true, true, true, true, true, true, true, true, true, true, true, false, false, false, false] rfl rfl (any_of HT_.out (by kernel_rfl)) (fun _ _ _ h => h) (Or.inl ⟨by rfl, ?_⟩) ?_ ?_
      rotate_left
      · intro w'
        go_simp
        with_reducible rfl
      rotate_left
      · simp only [Act.put, List.setIfInBounds_toArray, List.set_cons_zero, List.set_cons_succ, i64_w, i32_w]
        rfl
      refine pure_ (i := 12) (N := some 26) (v := ?_) (a' := ?_) #[true, true, true, true, true, true, true, true, true, true, true, true, true, false, false, false] rfl rfl (any_of HT_.out (by kernel_rfl)) (fun _ _ _ h => h) (Or.inl ⟨by rfl, ?_⟩) ?_ ?_
      rotate_left
      · intro w'
        go_simp
        with_reducible rfl
      rotate_left
      · simp only [Act.put, List.setIfInBounds_toArray, List.set_cons_zero, List.set_cons_succ, i64_w, i32_w]
        rfl
      refine pure_ (i := 13) (N := some 27) (v := ?_) (a' := ?_) #[true, true, true, true, true, true, true, true, true, true, true, true, true, true, false, false] rfl rfl (any_of HT_.out (by kernel_rfl)) (fun _ _ _ h => h) (Or.inl ⟨by rfl, ?_⟩) ?_ ?_
      rotate_left
      · intro w'
        go_simp
        with_reducible rfl
      rotate_left
      · simp only [Act.put, List.setIfInBounds_toArray, List.set_cons_zero, List.set_cons_succ, i64_w, i32_w]
        rfl
      refine pure_ (i := 14) (N := some 12) (v := ?_) (a' := ?_) #[true, true, true, true, true, true, true, true, true, true, true, true, true, true, true, false] rfl rfl (any_of HT_.out (by kernel_rfl)) (fun _ _ _ h => h) (Or.inl ⟨by rfl, ?_⟩) ?_ ?_
      rotate_left
      · intro w'
        go_simp
        with_reducible rfl
      rotate_left
      · simp only [Act.put, List.setIfInBounds_toArray, List.set_cons_zero, List.set_cons_succ, i64_w, i32_w]
        rfl
      refine pure_ (i := 15) (N := some 13) (v := ?_) (a' := ?_) #[true, true, true, true, true, true, true, true, true, true, true, true, true, true, true, true] rfl rfl (any_of HT_.out (by kernel_rfl)) (fun _ _ _ h => h) (Or.inl ⟨by rfl, ?_⟩) ?_ ?_
      rotate_left
      · intro w'
        go_simp
        with_reducible rfl
      rotate_left
      · simp only [Act.put, List.setIfInBounds_toArray, List.set_cons_zero, List.set_cons_succ, i64_w, i32_w]
        rfl
      refine done_ (done_of HT_.out (by kernel_rfl)) ?_
      try go_wp2
      have n0_ := Aside0.mk (Kd.R_drew HO210.out)
      have n1_ := Aside0.mk (Kd.S_drew HO213.out)
      have n2_ := Aside0.mk (Kd.V_drew HO216.out)
      have n3_ := Aside0.mk (blk_drew BK204.out)
      have n4_ := Aside0.mk (below_drew1 HB.out)
      clear HO210
      clear HO213
      clear HO216
      clear BK204
      clear HB
      have HO210 := n0_
      have HO213 := n1_
      have HO216 := n2_
      have BK204 := n3_
      have HB := n4_
      clear n0_ n1_ n2_ n3_ n4_
      refine start_ (n := 5) (S := fun w' => True) (ds := []) #[false, false, false, false, false] (by kernel_rfl) rfl rfl trivial (fun hHeld => ?_)
      generalize w17.drew = w18 at HO210 HO213 HO216 BK204 HB hHeld ⊢
      refine pure_ (i := 0) (N := some 28) (v := ?_) (a' := ?_) #[true, false, false, false, false] rfl rfl (by kernel_rfl) (fun _ _ _ h => h) (Or.inl ⟨by rfl, ?_⟩) ?_ ?_
      rotate_left
      · intro w'
        go_simp
        with_reducible rfl
      rotate_left
      · simp only [Act.put, List.setIfInBounds_toArray, List.set_cons_zero, List.set_cons_succ, i64_w, i32_w]
        rfl
      refine pure_ (i := 1) (N := some 29) (v := ?_) (a' := ?_) #[true, true, false, false, false] rfl rfl (by kernel_rfl) (fun _ _ _ h => h) (Or.inl ⟨by rfl, ?_⟩) ?_ ?_
      rotate_left
      · intro w'
        go_simp
        with_reducible rfl
      rotate_left
      · simp only [Act.put, List.setIfInBounds_toArray, List.set_cons_zero, List.set_cons_succ, i64_w, i32_w]
        rfl
      refine pure_ (i := 2) (N := some 30) (v := ?_) (a' := ?_) #[true, true, true, false, false] rfl rfl (by kernel_rfl) (fun _ _ _ h => h) (Or.inl ⟨by rfl, ?_⟩) ?_ ?_
      rotate_left
      · intro w'
        go_simp
        with_reducible rfl
      rotate_left
      · simp only [Act.put, List.setIfInBounds_toArray, List.set_cons_zero, List.set_cons_succ, i64_w, i32_w]
        rfl
      refine pure_ (i := 3) (N := some 10) (v := ?_) (a' := ?_) #[true, true, true, true, false] rfl rfl (by kernel_rfl) (fun _ _ _ h => h) (Or.inl ⟨by rfl, ?_⟩) ?_ ?_
      rotate_left
      · intro w'
        go_simp
        with_reducible rfl
      rotate_left
      · simp only [Act.put, List.setIfInBounds_toArray, List.set_cons_zero, List.set_cons_succ, i64_w, i32_w]
        rfl
      refine pure_ (i := 4) (N := some 11) (v := ?_) (a' := ?_) #[true, true, true, true, true] rfl rfl (by kernel_rfl) (fun _ _ _ h => h) (Or.inl ⟨by rfl, ?_⟩) ?_ ?_
      rotate_left
      · intro w'
        go_simp
        with_reducible rfl
      rotate_left
      · simp only [Act.put, List.setIfInBounds_toArray, List.set_cons_zero, List.set_cons_succ, i64_w, i32_w]
        rfl
      refine done_ (by kernel_rfl) ?_
      try go_wp2
      go_ret2
      exact ⟨_, by first | rfl | (simp [errW_none, errW_some] <;> rfl) | (simp [*, errW_none, errW_some] <;> rfl), by (with_reducible repeat (first | apply Kd.V_alloc | apply Kd.V_drewN | apply Kd.V_drew)); exact Kd.V_mono HO216.out (fun _ hk => hk.1), by repeat (first | (with_reducible first | exact HB.out | apply below_alloc | apply pw_below_drewN | apply below_drew1 | refine below_set ?_ GE204.out) | exact HB.out)⟩
    · have H1 : (some (t214, false)) = some (r1, r2) := by rw [if_neg (show ¬ (some q219).isNone = true by simp)] at H; exact H
      clear H
      have H := H1
      clear H1
      try simp only [errW_none, errW_some]
      simp only [Option.some.injEq, Prod.mk.injEq] at H
      obtain ⟨rfl, rfl⟩ := H
      go_enter Tryd.func50, Tryd.ntmps50
      try go_wp2_with (first | ((with_reducible refine gate_dst (N := 5) rfl ?_); refine box_event ?hg (N := 5) ?hd (cs := #[.int .i64 a0_0, .int .i64 a0_1, .int .i64 a0_2, .int .u64 a0_3, .int .u64 a0_4, .int .u64 a0_5]) (t := 37) ?hr ?_; (case hd => rfl); (case hg => rfl); (case hr => first | (go_simp; done) | (go_simp; rfl)); intro gb204 hg w19 hbox hb; have n0_ := Aside0.mk (below_step (by repeat (first | (with_reducible first | exact HB.out | apply below_alloc | apply pw_below_drewN | apply below_drew1) | exact HB.out)) hb); have n1_ := Aside0.mk (hbox); have n2_ := Aside0.mk ((by rw [hg]; exact (below_size (by repeat (first | (with_reducible first | exact HB.out | apply below_alloc | apply pw_below_drewN | apply below_drew1) | exact HB.out))) : w.heap.size ≤ gb204)); have n3_ := Aside0.mk ((by rw [hg]; exact (below_size (by repeat (first | (with_reducible first | exact HB.out | apply below_alloc | apply pw_below_drewN | apply below_drew1) | exact HB.out))) : w.heap.size ≤ gb204)); clear HB; have HB := n0_; have BK204 := n1_; have GW204 := n2_; have GE204 := n3_; clear n0_ n1_ n2_ n3_; clear hb hbox hg))
      have n0_ := Aside0.mk (blk_drew BK204.out)
      have n1_ := Aside0.mk (below_drew1 HB.out)
      clear BK204
      clear HB
      have BK204 := n0_
      have HB := n1_
      clear n0_ n1_
      refine start_ (n := 16) (S := fun w' => w'.cell? ⟨gb204, 0, none⟩ = some (.int .i64 a0_0) ∧ w'.cell? ⟨gb204, 1, none⟩ = some (.int .i64 a0_1) ∧ w'.cell? ⟨gb204, 2, none⟩ = some (.int .i64 a0_2) ∧ w'.cell? ⟨gb204, 3, none⟩ = some (.int .u64 a0_3) ∧ w'.cell? ⟨gb204, 4, none⟩ = some (.int .u64 a0_4) ∧ w'.cell? ⟨gb204, 5, none⟩ = some (.int .u64 a0_5)) (ds := []) #[false, false, false, false, false, false, false, false, false, false, false, false, false, false, false, false] (by kernel_rfl) rfl rfl ⟨(blk_cell BK204.out 0).trans rfl, (blk_cell BK204.out 1).trans rfl, (blk_cell BK204.out 2).trans rfl, (blk_cell BK204.out 3).trans rfl, (blk_cell BK204.out 4).trans rfl, (blk_cell BK204.out 5).trans rfl⟩ (fun hHeld => ?_); refine with_tabW impl_RootOfInclusion.tab1 impl_RootOfInclusion.bits1 (fun HT_ HW_ => ?_)
      generalize w19.drew = w20 at BK204 HB hHeld ⊢
      refine pure_ (i := 3) (N := some 18) (v := ?_) (a' := ?_) #[false, false, false, true, false, false, false, false, false, false, false, false, false, false, false, false] rfl rfl (any_of HT_.out (by kernel_rfl)) (fun _ _ _ h => h) (Or.inl ⟨by rfl, ?_⟩) ?_ ?_
      rotate_left
      · intro w'
        go_simp
        with_reducible rfl
      rotate_left
      · simp only [Act.put, List.setIfInBounds_toArray, List.set_cons_zero, List.set_cons_succ, i64_w, i32_w]
        rfl
      refine pure_ (i := 4) (N := some 19) (v := ?_) (a' := ?_) #[false, false, false, true, true, false, false, false, false, false, false, false, false, false, false, false] rfl rfl (any_of HT_.out (by kernel_rfl)) (fun _ _ _ h => h) (Or.inl ⟨by rfl, ?_⟩) ?_ ?_
      rotate_left
      · intro w'
        go_simp
        with_reducible rfl
      rotate_left
      · simp only [Act.put, List.setIfInBounds_toArray, List.set_cons_zero, List.set_cons_succ, i64_w, i32_w]
        rfl
      refine pure_ (i := 6) (N := some 21) (v := ?_) (a' := ?_) #[false, false, false, true, true, false, true, false, false, false, false, false, false, false, false, false] rfl rfl (any_of HT_.out (by kernel_rfl)) (fun _ _ _ h => h) (Or.inl ⟨by rfl, ?_⟩) ?_ ?_
      rotate_left
      · intro w'
        go_simp
        with_reducible rfl
      rotate_left
      · simp only [Act.put, List.setIfInBounds_toArray, List.set_cons_zero, List.set_cons_succ, i64_w, i32_w]
        rfl
      refine pure_ (i := 8) (N := some 23) (v := ?_) (a' := ?_) #[false, false, false, true, true, false, true, false, true, false, false, false, false, false, false, false] rfl rfl (any_of HT_.out (by kernel_rfl)) (fun _ _ _ h => h) (Or.inl ⟨by rfl, ?_⟩) ?_ ?_
      rotate_left
      · intro w'
        go_simp
        with_reducible rfl
      rotate_left
      · simp only [Act.put, List.setIfInBounds_toArray, List.set_cons_zero, List.set_cons_succ, i64_w, i32_w]
        rfl
      refine take_ (i := 0) (N := some 15) (v := ?_) (a' := ?_) #[true, false, false, true, true, false, true, false, true, false, false, false, false, false, false, false] rfl rfl (take_ofW HT_.out HW_.out (by kernel_rfl)) (fun _ _ _ h => h) (Or.inl ⟨by rfl, ?_⟩) hHeld ?_ ?_
      rotate_left
      · rintro w' ⟨s0, s1, s2, s3, s4, s5⟩
        go_simp
        with_reducible rfl
      rotate_left
      · simp only [Act.put, List.setIfInBounds_toArray, List.set_cons_zero, List.set_cons_succ, i64_w, i32_w]
        rfl
      refine pure_ (i := 1) (N := some 16) (v := ?_) (a' := ?_) #[true, true, false, true, true, false, true, false, true, false, false, false, false, false, false, false] rfl rfl (any_of HT_.out (by kernel_rfl)) (fun _ _ _ h => h) (Or.inl ⟨by rfl, ?_⟩) ?_ ?_
      rotate_left
      · intro w'
        go_simp
        with_reducible rfl
      rotate_left
      · simp only [Act.put, List.setIfInBounds_toArray, List.set_cons_zero, List.set_cons_succ, i64_w, i32_w]
        rfl
      refine pure_ (i := 2) (N := some 17) (v := ?_) (a' := ?_) #[true, true, true, true, true, false, true, false, true, false, false, false, false, false, false, false] rfl rfl (any_of HT_.out (by kernel_rfl)) (fun _ _ _ h => h) (Or.inl ⟨by rfl, ?_⟩) ?_ ?_
      rotate_left
      · intro w'
        go_simp
        with_reducible rfl
      rotate_left
      · simp only [Act.put, List.setIfInBounds_toArray, List.set_cons_zero, List.set_cons_succ, i64_w, i32_w]
        rfl
      refine one_ (i := 5) (N := some 20) #[true, true, true, true, true, true, true, false, true, false, false, false, false, false, false, false] rfl rfl (one_of HT_.out (by kernel_rfl)) (by decide) (fun K hK => ?_)
      refine Kd.R_lit_step (Kd.int .u8) _ 5 ?hg (N := 20) ?hd (xs := ([] : List Int)) (inner := []) (ok := fun _ => True) (okp := fun _ => True) ?hr ?hp (fun _ hk => hk) trivial (Below.refl _ _) (Nat.le_refl _) (by simp) ?_; (case hd => rfl); (case hg => rfl); (case hr => first | (go_simp; done) | (go_simp; rfl)); (case hp => exact (Reps.none _ _))
      intro v206 w21 ho22 hb hg_ hnew_
      clear hg_ hnew_
      (first | rw [← Ny205.out] at ho22 | (simp only [Int.reduceToNat] at ho22; rw [← Ny205.out] at ho22))
      have n0_ := Aside0.mk (Kd.R_lower (Kd.R_newM (M := fun k_ => (w.heap.size ≤ k_)) ho22 (below_size (by repeat (first | (with_reducible first | exact HB.out | apply below_alloc | apply pw_below_drewN | apply below_drew1 | refine below_set ?_ GE204.out) | exact HB.out))) (fun k_ h_ => h_)) (below_size (by repeat (first | (with_reducible first | exact HB.out | apply below_alloc | apply pw_below_drewN | apply below_drew1 | refine below_set ?_ GE204.out) | exact HB.out))))
      have n1_ := Aside0.mk (blk_below (g := gb204) (o := .cells #[.int .i64 a0_0, .int .i64 a0_1, .int .i64 a0_2, .int .u64 a0_3, .int .u64 a0_4, .int .u64 a0_5] 37 (0, 0)) (by (with_reducible repeat (first | refine blk_drewN ?_ _ | refine blk_drew ?_ | refine blk_alloc ?_ _)); exact BK204.out) hb)
      have n2_ := Aside0.mk (below_step (by repeat (first | (with_reducible first | exact HB.out | apply below_alloc | apply pw_below_drewN | apply below_drew1 | refine below_set ?_ GE204.out) | exact HB.out)) hb)
      clear BK204
      clear HB
      have HO207 := n0_
      have BK204 := n1_
      have HB := n2_
      clear n0_ n1_ n2_
      clear hb ho22
      refine hK.out _ _ ⟨(blk_cell BK204.out 0).trans rfl, (blk_cell BK204.out 1).trans rfl, (blk_cell BK204.out 2).trans rfl, (blk_cell BK204.out 3).trans rfl, (blk_cell BK204.out 4).trans rfl, (blk_cell BK204.out 5).trans rfl⟩ (fun hHeld => ?_)
      clear hK K
      refine norm_ (a' := ?_) ?_ ?_
      rotate_left
      · show Act.put _ (some 20) _ = _
        simp only [Act.put, List.setIfInBounds_toArray, List.set_cons_zero, List.set_cons_succ, i64_w, i32_w]
        rfl
      refine one_ (i := 7) (N := some 22) #[true, true, true, true, true, true, true, true, true, false, false, false, false, false, false, false] rfl rfl (one_of HT_.out (by kernel_rfl)) (by decide) (fun K hK => ?_)
      refine Kd.R_append_rows_step (Kd.int .u8) (w0 := w) w.heap.size (by rfl) (.tmp 20) (.tmp 21) 42 5 (.int .u8 0) 1 rfl Tryd.underlying42 info5 rfl (by decide) (by omega) v206 y205 l3 _ _ _ (fun k_ => (w.heap.size ≤ k_)) (fun _ => False) rfl rfl ?aO ?aR (fun _ _ h => h) (fun _ h => h.elim) ?aF ?aB ?aS ?aL ?_
      (case aR => repeat (first | exact (Kd.C_below HR3.out HB.out) | (with_reducible refine Kd.C_alloc ?_ _) | (with_reducible refine Kd.C_drewN ?_ _) | (with_reducible refine Kd.C_drew ?_)))
      (case aB => exact (by repeat (first | (with_reducible first | exact HB.out | apply below_alloc | apply pw_below_drewN | apply below_drew1 | refine below_set ?_ GE204.out) | exact HB.out)))
      (case aF => exact (fun k_ hk => (Nat.le_trans (below_size (by repeat (first | (with_reducible first | exact HB.out | apply below_alloc | apply pw_below_drewN | apply below_drew1 | refine below_set ?_ GE204.out) | exact HB.out))) hk)))
      (case aO => exact (by (with_reducible repeat (first | apply Kd.R_alloc | apply Kd.R_drewN | apply Kd.R_drew)); exact Kd.R_mono HO207.out (fun _ hk => hk.1)))
      (case aS => exact (below_size (by repeat (first | (with_reducible first | exact HB.out | apply below_alloc | apply pw_below_drewN | apply below_drew1 | refine below_set ?_ GE204.out) | exact HB.out))))
      (case aL => have := LMc6.out; omega)
      intro v209 w23 ho hb hg hat
      rw [← Ny208.out] at ho
      have n0_ := Aside0.mk (blk_grown (g := gb204) (o := .cells #[.int .i64 a0_0, .int .i64 a0_1, .int .i64 a0_2, .int .u64 a0_3, .int .u64 a0_4, .int .u64 a0_5] 37 (0, 0)) (by (with_reducible repeat (first | refine blk_drewN ?_ _ | refine blk_drew ?_ | refine blk_alloc ?_ _)); exact BK204.out) hg (Kd.R_ne HO207.out BK204.out (by decide)))
      have n1_ := Aside0.mk (hb)
      have n2_ := Aside0.mk (ho)
      clear BK204
      clear HB
      clear HO207
      have BK204 := n0_
      have HB := n1_
      have HO210 := n2_
      clear n0_ n1_ n2_
      clear ho hb hg hat
      refine hK.out _ _ ⟨(blk_cell BK204.out 0).trans rfl, (blk_cell BK204.out 1).trans rfl, (blk_cell BK204.out 2).trans rfl, (blk_cell BK204.out 3).trans rfl, (blk_cell BK204.out 4).trans rfl, (blk_cell BK204.out 5).trans rfl⟩ (fun hHeld => ?_)
      clear hK K
      refine norm_ (a' := ?_) ?_ ?_
      rotate_left
      · show Act.put _ (some 22) _ = _
        simp only [Act.put, List.setIfInBounds_toArray, List.set_cons_zero, List.set_cons_succ, i64_w, i32_w]
        rfl
      refine one_ (i := 9) (N := some 24) #[true, true, true, true, true, true, true, true, true, true, false, false, false, false, false, false] rfl rfl (one_of HT_.out (by kernel_rfl)) (by decide) (fun K hK => ?_)
      refine goes_ Tryd.func70 (by kernel_rfl) rfl #[.slice A4 l4.length c4] (by rfl) rfl rfl (by (try simp only [List.map_toArray, List.map_cons, List.map_nil]); first | done | rfl | (simp only [List.length_drop, List.length_take]; rfl)) ?_
      with_reducible refine (impl_texts.calls k _ _ l4 t211 _ ?side1 ?side2 A7.out).mono ?_
      (case side1 => repeat (first | exact (Kd.C_below HR4.out HB.out) | (with_reducible refine Kd.C_alloc ?_ _) | (with_reducible refine Kd.C_drewN ?_ _) | (with_reducible refine Kd.C_drew ?_)))
      (case side2 => exact HC4.out)
      rintro e w24 ⟨v212, rfl, ho0, hb⟩
      refine ⟨_, rfl, ?_⟩
      have n0_ := Aside0.mk (Kd.R_below (by (with_reducible repeat (first | apply Kd.R_alloc | apply Kd.R_drewN | apply Kd.R_drew)); exact HO210.out) hb)
      have n1_ := Aside0.mk (Kd.S_lower (Kd.S_new' (Kd.S_newM (M := fun k_ => (w.heap.size ≤ k_)) ho0 (below_size (by repeat (first | (with_reducible first | exact HB.out | apply below_alloc | apply pw_below_drewN | apply below_drew1 | refine below_set ?_ GE204.out) | exact HB.out))) (fun k_ h_ => h_)) (Kd.R_lt (by (with_reducible repeat (first | apply Kd.R_alloc | apply Kd.R_drewN | apply Kd.R_drew)); exact HO210.out))) (below_size (by repeat (first | (with_reducible first | exact HB.out | apply below_alloc | apply pw_below_drewN | apply below_drew1 | refine below_set ?_ GE204.out) | exact HB.out))))
      have n2_ := Aside0.mk (blk_below (g := gb204) (o := .cells #[.int .i64 a0_0, .int .i64 a0_1, .int .i64 a0_2, .int .u64 a0_3, .int .u64 a0_4, .int .u64 a0_5] 37 (0, 0)) (by (with_reducible repeat (first | refine blk_drewN ?_ _ | refine blk_drew ?_ | refine blk_alloc ?_ _)); exact BK204.out) hb)
      have n3_ := Aside0.mk (below_step (by repeat (first | (with_reducible first | exact HB.out | apply below_alloc | apply pw_below_drewN | apply below_drew1 | refine below_set ?_ GE204.out) | exact HB.out)) hb)
      clear HO210
      clear BK204
      clear HB
      have HO210 := n0_
      have HO213 := n1_
      have BK204 := n2_
      have HB := n3_
      clear n0_ n1_ n2_ n3_
      (try clear hb)
      (try clear hb2)
      (try clear hk)
      (try clear hi)
      (try clear ho0)
      obtain ⟨Ao25, co25, eo25⟩ := Kd.R_slice HO210.out
      (first | subst eo25 | (injection eo25 with f1_ f2_ f3_; have f4_ := f1_.symm; have f5_ := f3_.symm; clear f1_ f2_ f3_; subst f4_; subst f5_))
      obtain ⟨Ao26, co26, eo26⟩ := Kd.S_slice HO213.out
      (first | subst eo26 | (injection eo26 with f1_ f2_ f3_; have f4_ := f1_.symm; have f5_ := f3_.symm; clear f1_ f2_ f3_; subst f4_; subst f5_))
      refine hK.out _ _ ⟨(blk_cell BK204.out 0).trans rfl, (blk_cell BK204.out 1).trans rfl, (blk_cell BK204.out 2).trans rfl, (blk_cell BK204.out 3).trans rfl, (blk_cell BK204.out 4).trans rfl, (blk_cell BK204.out 5).trans rfl⟩ (fun hHeld => ?_)
      clear hK K
      refine norm_ (a' := ?_) ?_ ?_
      rotate_left
      · show Act.put _ (some 24) _ = _
        simp only [Act.put, List.setIfInBounds_toArray, List.set_cons_zero, List.set_cons_succ, i64_w, i32_w]
        rfl
      refine one_ (i := 10) (N := some 25) #[true, true, true, true, true, true, true, true, true, true, true, false, false, false, false, false] rfl rfl (one_of HT_.out (by kernel_rfl)) (by decide) (fun K hK => ?_)
      refine goes_ Tryd.func102 (by kernel_rfl) rfl #[.iface 114 (.agg #[.int .i64 a0_0, .int .i64 a0_1, .int .i64 a0_2, .int .u64 a0_3, .int .u64 a0_4, .int .u64 a0_5]), .int .u64 a1, .int .u64 a2, .slice Ao25 y208.length co25, .slice Ao26 t211.length co26] (by rfl) rfl rfl (by (try simp only [List.map_toArray, List.map_cons, List.map_nil]); first | done | rfl | (simp only [List.length_drop, List.length_take]; rfl)) ?_
      with_reducible refine (proof_RootFromInclusionProof.calls k a0_0 a0_1 a0_2 a0_3 a0_4 a0_5 a1 a2 (fun k_ => some k_ = (.slice Ao25 y208.length co25 : Value).ownBlock) _ _ y208 _ _ t211 t214 (some q219) _ ?side1 ?side2 ?side3 A8.out).mono ?_
      (case side1 => exact Kd.R_V (Kd.R_tight rfl (Kd.R_types (Kd.R_apart' (HO210.out) (Kd.S_typed HO213.out) (by decide)) BK204.out (by decide))))
      (case side2 => repeat (first | exact (Kd.S_reads' HO213.out).2.2 | (with_reducible refine Kd.C_alloc ?_ _) | (with_reducible refine Kd.C_drewN ?_ _) | (with_reducible refine Kd.C_drew ?_)))
      (case side3 => exact (Kd.S_reads' HO213.out).2.1)
      rintro e w27 ⟨v215, qe218, rfl, ho0, hb⟩
      refine ⟨_, rfl, ?_⟩
      have n0_ := Aside0.mk (Kd.R_below (by (with_reducible repeat (first | apply Kd.R_alloc | apply Kd.R_drewN | apply Kd.R_drew)); exact HO210.out) hb)
      have n1_ := Aside0.mk (Kd.S_below (by (with_reducible repeat (first | apply Kd.S_alloc | apply Kd.S_drewN | apply Kd.S_drew)); exact HO213.out) hb)
      have n2_ := Aside0.mk (Kd.V_lower (Kd.V_mono (ok' := fun k_ => (w.heap.size ≤ k_) ∧ some k_ ≠ (.slice Ao26 t211.length co26 : Value).ownBlock ∧ k_ ≠ gb204) ho0 (fun k_ hk_ => ⟨Or.elim hk_ (fun hs_ => ((Kd.R_types (Kd.R_apart' (HO210.out) (Kd.S_typed HO213.out) (by decide)) BK204.out (by decide)).1 k_ hs_.symm).1.1) (fun hn_ => (Nat.le_trans (below_size (by repeat (first | (with_reducible first | exact HB.out | apply below_alloc | apply pw_below_drewN | apply below_drew1 | refine below_set ?_ GE204.out) | exact HB.out))) hn_)), Or.elim hk_ (fun hs_ => ((Kd.R_types (Kd.R_apart' (HO210.out) (Kd.S_typed HO213.out) (by decide)) BK204.out (by decide)).1 k_ hs_.symm).1.2) (fun hn_ => (Kd.fresh' (Kd.S_lt (by (with_reducible repeat (first | apply Kd.S_alloc | apply Kd.S_drewN | apply Kd.S_drew)); exact HO213.out)) k_ hn_)), Or.elim hk_ (fun hs_ => ((Kd.R_types (Kd.R_apart' (HO210.out) (Kd.S_typed HO213.out) (by decide)) BK204.out (by decide)).1 k_ hs_.symm).2) (fun hn_ => (Kd.freshB (g := gb204) (o := .cells #[.int .i64 a0_0, .int .i64 a0_1, .int .i64 a0_2, .int .u64 a0_3, .int .u64 a0_4, .int .u64 a0_5] 37 (0, 0)) (by (with_reducible repeat (first | refine blk_drewN ?_ _ | refine blk_drew ?_ | refine blk_alloc ?_ _)); exact BK204.out) k_ hn_))⟩)) (below_size (by repeat (first | (with_reducible first | exact HB.out | apply below_alloc | apply pw_below_drewN | apply below_drew1 | refine below_set ?_ GE204.out) | exact HB.out))))
      have n3_ := Aside0.mk (blk_below (g := gb204) (o := .cells #[.int .i64 a0_0, .int .i64 a0_1, .int .i64 a0_2, .int .u64 a0_3, .int .u64 a0_4, .int .u64 a0_5] 37 (0, 0)) (by (with_reducible repeat (first | refine blk_drewN ?_ _ | refine blk_drew ?_ | refine blk_alloc ?_ _)); exact BK204.out) hb)
      have n4_ := Aside0.mk (below_step (by repeat (first | (with_reducible first | exact HB.out | apply below_alloc | apply pw_below_drewN | apply below_drew1 | refine below_set ?_ GE204.out) | exact HB.out)) hb)
      clear HO210
      clear HO213
      clear BK204
      clear HB
      have HO210 := n0_
      have HO213 := n1_
      have HO216 := n2_
      have BK204 := n3_
      have HB := n4_
      clear n0_ n1_ n2_ n3_ n4_
      (try clear hb)
      (try clear hb2)
      (try clear hk)
      (try clear hi)
      (try clear ho0)
      (try simp only [errW_none, errW_some])
      refine hK.out _ _ ⟨(blk_cell BK204.out 0).trans rfl, (blk_cell BK204.out 1).trans rfl, (blk_cell BK204.out 2).trans rfl, (blk_cell BK204.out 3).trans rfl, (blk_cell BK204.out 4).trans rfl, (blk_cell BK204.out 5).trans rfl⟩ (fun hHeld => ?_)
      clear hK K
      refine norm_ (a' := ?_) ?_ ?_
      rotate_left
      · show Act.put _ (some 25) _ = _
        simp only [Act.put, List.setIfInBounds_toArray, List.set_cons_zero, List.set_cons_succ, i64_w, i32_w]
        rfl
      refine pure_ (i := 11) (N := some 14) (v := ?_) (a' := ?_) #[true, true, true, true, true, true, true, true, true, true, true, true, false, false, false, false] rfl rfl (any_of HT_.out (by kernel_rfl)) (fun _ _ _ h => h) (Or.inl ⟨by rfl, ?_⟩) ?_ ?_
      rotate_left
      · intro w'
        go_simp
        with_reducible rfl
      rotate_left
      · simp only [Act.put, List.setIfInBounds_toArray, List.set_cons_zero, List.set_cons_succ, i64_w, i32_w]
        rfl
      refine pure_ (i := 12) (N := some 26) (v := ?_) (a' := ?_) #[true, true, true, true, true, true, true, true, true, true, true, true, true, false, false, false] rfl rfl (any_of HT_.out (by kernel_rfl)) (fun _ _ _ h => h) (Or.inl ⟨by rfl, ?_⟩) ?_ ?_
      rotate_left
      · intro w'
        go_simp
        with_reducible rfl
      rotate_left
      · simp only [Act.put, List.setIfInBounds_toArray, List.set_cons_zero, List.set_cons_succ, i64_w, i32_w]
        rfl
      refine pure_ (i := 13) (N := some 27) (v := ?_) (a' := ?_) #[true, true, true, true, true, true, true, true, true, true, true, true, true, true, false, false] rfl rfl (any_of HT_.out (by kernel_rfl)) (fun _ _ _ h => h) (Or.inl ⟨by rfl, ?_⟩) ?_ ?_
      rotate_left
      · intro w'
        go_simp
        with_reducible rfl
      rotate_left
      · simp only [Act.put, List.setIfInBounds_toArray, List.set_cons_zero, List.set_cons_succ, i64_w, i32_w]
        rfl
      refine pure_ (i := 14) (N := some 12) (v := ?_) (a' := ?_) #[true, true, true, true, true, true, true, true, true, true, true, true, true, true, true, false] rfl rfl (any_of HT_.out (by kernel_rfl)) (fun _ _ _ h => h) (Or.inl ⟨by rfl, ?_⟩) ?_ ?_
      rotate_left
      · intro w'
        go_simp
        with_reducible rfl
      rotate_left
      · simp only [Act.put, List.setIfInBounds_toArray, List.set_cons_zero, List.set_cons_succ, i64_w, i32_w]
        rfl
      refine pure_ (i := 15) (N := some 13) (v := ?_) (a' := ?_) #[true, true, true, true, true, true, true, true, true, true, true, true, true, true, true, true] rfl rfl (any_of HT_.out (by kernel_rfl)) (fun _ _ _ h => h) (Or.inl ⟨by rfl, ?_⟩) ?_ ?_
      rotate_left
      · intro w'
        go_simp
        with_reducible rfl
      rotate_left
      · simp only [Act.put, List.setIfInBounds_toArray, List.set_cons_zero, List.set_cons_succ, i64_w, i32_w]
        rfl
      refine done_ (done_of HT_.out (by kernel_rfl)) ?_
      try go_wp2
      have n0_ := Aside0.mk (Kd.R_drew HO210.out)
      have n1_ := Aside0.mk (Kd.S_drew HO213.out)
      have n2_ := Aside0.mk (Kd.V_drew HO216.out)
      have n3_ := Aside0.mk (blk_drew BK204.out)
      have n4_ := Aside0.mk (below_drew1 HB.out)
      clear HO210
      clear HO213
      clear HO216
      clear BK204
      clear HB
      have HO210 := n0_
      have HO213 := n1_
      have HO216 := n2_
      have BK204 := n3_
      have HB := n4_
      clear n0_ n1_ n2_ n3_ n4_
      refine start_ (n := 5) (S := fun w' => True) (ds := []) #[false, false, false, false, false] (by kernel_rfl) rfl rfl trivial (fun hHeld => ?_)
      generalize w27.drew = w28 at HO210 HO213 HO216 BK204 HB hHeld ⊢
      refine pure_ (i := 0) (N := some 28) (v := ?_) (a' := ?_) #[true, false, false, false, false] rfl rfl (by kernel_rfl) (fun _ _ _ h => h) (Or.inl ⟨by rfl, ?_⟩) ?_ ?_
      rotate_left
      · intro w'
        go_simp
        with_reducible rfl
      rotate_left
      · simp only [Act.put, List.setIfInBounds_toArray, List.set_cons_zero, List.set_cons_succ, i64_w, i32_w]
        rfl
      refine pure_ (i := 1) (N := some 29) (v := ?_) (a' := ?_) #[true, true, false, false, false] rfl rfl (by kernel_rfl) (fun _ _ _ h => h) (Or.inl ⟨by rfl, ?_⟩) ?_ ?_
      rotate_left
      · intro w'
        go_simp
        with_reducible rfl
      rotate_left
      · simp only [Act.put, List.setIfInBounds_toArray, List.set_cons_zero, List.set_cons_succ, i64_w, i32_w]
        rfl
      refine pure_ (i := 2) (N := some 30) (v := ?_) (a' := ?_) #[true, true, true, false, false] rfl rfl (by kernel_rfl) (fun _ _ _ h => h) (Or.inl ⟨by rfl, ?_⟩) ?_ ?_
      rotate_left
      · intro w'
        go_simp
        with_reducible rfl
      rotate_left
      · simp only [Act.put, List.setIfInBounds_toArray, List.set_cons_zero, List.set_cons_succ, i64_w, i32_w]
        rfl
      refine pure_ (i := 3) (N := some 10) (v := ?_) (a' := ?_) #[true, true, true, true, false] rfl rfl (by kernel_rfl) (fun _ _ _ h => h) (Or.inl ⟨by rfl, ?_⟩) ?_ ?_
      rotate_left
      · intro w'
        go_simp
        with_reducible rfl
      rotate_left
      · simp only [Act.put, List.setIfInBounds_toArray, List.set_cons_zero, List.set_cons_succ, i64_w, i32_w]
        rfl
      refine pure_ (i := 4) (N := some 11) (v := ?_) (a' := ?_) #[true, true, true, true, true] rfl rfl (by kernel_rfl) (fun _ _ _ h => h) (Or.inl ⟨by rfl, ?_⟩) ?_ ?_
      rotate_left
      · intro w'
        go_simp
        with_reducible rfl
      rotate_left
      · simp only [Act.put, List.setIfInBounds_toArray, List.set_cons_zero, List.set_cons_succ, i64_w, i32_w]
        rfl
      refine done_ (by kernel_rfl) ?_
      try go_wp2
      go_ret2
      exact ⟨_, by first | rfl | (simp [errW_none, errW_some] <;> rfl) | (simp [*, errW_none, errW_some] <;> rfl), by (with_reducible repeat (first | apply Kd.V_alloc | apply Kd.V_drewN | apply Kd.V_drew)); exact Kd.V_mono HO216.out (fun _ hk => hk.1), by repeat (first | (with_reducible first | exact HB.out | apply below_alloc | apply pw_below_drewN | apply below_drew1 | refine below_set ?_ GE204.out) | exact HB.out)⟩
  · rw [if_neg c6] at H
    exact absurd H (by simp)
def compact_Decompose.f (a0 : Int) (a1 : Int) : Option (Int × Int) := if a0 = 0 then (some (0, a1)) else ((bits_Len64.f (Go.bits .xor .u64 (IntKind.u64.wrap (a0 - 1)) a1)).bind fun t220 => (if 0 ≤ (IntKind.u64.wrap (wrap64 (t220 - 1))) then (some (Go.bits .and .u64 (Go.bits .xor .u64 18446744073709551615 (IntKind.u64.wrap (a0 - 1))) (IntKind.u64.wrap ((shl .u64 1 (IntKind.u64.wrap (wrap64 (t220 - 1)))) - 1)), Go.bits .and .u64 a1 (IntKind.u64.wrap ((shl .u64 1 (IntKind.u64.wrap (wrap64 (t220 - 1)))) - 1)))) else (none)))
set_option maxHeartbeats 8000000 in
set_option maxRecDepth 100000 in
theorem compact_Decompose.calls (a0 : Int) (a1 : Int) (r1 : Int) (r2 : Int) (w : World) (h : compact_Decompose.f a0 a1 = some (r1, r2)) :
    Calls Tryd.prog 108 #[.int .u64 a0, .int .u64 a1] w fun e w' => e = .returned (.tuple #[.int .u64 r1, .int .u64 r2]) ∧ Drawn0 w w' := by
  have H : (if a0 = 0 then (some (0, a1)) else ((bits_Len64.f (Go.bits .xor .u64 (IntKind.u64.wrap (a0 - 1)) a1)).bind fun t220 => (if 0 ≤ (IntKind.u64.wrap (wrap64 (t220 - 1))) then (some (Go.bits .and .u64 (Go.bits .xor .u64 18446744073709551615 (IntKind.u64.wrap (a0 - 1))) (IntKind.u64.wrap ((shl .u64 1 (IntKind.u64.wrap (wrap64 (t220 - 1)))) - 1)), Go.bits .and .u64 a1 (IntKind.u64.wrap ((shl .u64 1 (IntKind.u64.wrap (wrap64 (t220 - 1)))) - 1)))) else (none)))) = some (r1, r2) := h
  clear h
  by_cases c3 : a0 = 0
  · rw [if_pos c3] at H
    have c3b0 : (a0 == 0) = true := beq_iff_eq.mpr c3
    have c3b1 : (a0 != 0) = false := bne_eq_false_iff_eq.mpr c3
    clear c3
    simp only [Option.some.injEq, Prod.mk.injEq] at H
    obtain ⟨rfl, rfl⟩ := H
    go_enter Tryd.func108, Tryd.ntmps108
    go_wp2
    go_ret2
    exact ⟨by first | rfl | (simp; done) | (simp [*]; done), by repeat (first | exact Drawn0.refl _ | apply Drawn0.step)⟩
  · rw [if_neg c3] at H
    have c3b0 : (a0 == 0) = false := beq_eq_false_iff_ne.mpr c3
    have c3b1 : (a0 != 0) = true := bne_iff_ne.mpr c3
    replace H := Option.bind_eq_some_iff.mp H
    obtain ⟨t220, A40, H⟩ := H
    replace H : (if 0 ≤ (IntKind.u64.wrap (wrap64 (t220 - 1))) then (some (Go.bits .and .u64 (Go.bits .xor .u64 18446744073709551615 (IntKind.u64.wrap (a0 - 1))) (IntKind.u64.wrap ((shl .u64 1 (IntKind.u64.wrap (wrap64 (t220 - 1)))) - 1)), Go.bits .and .u64 a1 (IntKind.u64.wrap ((shl .u64 1 (IntKind.u64.wrap (wrap64 (t220 - 1)))) - 1)))) else (none)) = some (r1, r2) := H
    have A4 := Aside0.mk A40
    clear A40
    obtain ⟨ji5, hji5⟩ : ∃ j_ : Int, (IntKind.u64.wrap (wrap64 (t220 - 1))) = j_ := ⟨_, rfl⟩
    replace H : (if 0 ≤ (ji5) then (some (Go.bits .and .u64 (Go.bits .xor .u64 18446744073709551615 (IntKind.u64.wrap (a0 - 1))) (IntKind.u64.wrap ((shl .u64 1 (ji5)) - 1)), Go.bits .and .u64 a1 (IntKind.u64.wrap ((shl .u64 1 (ji5)) - 1)))) else (none)) = some (r1, r2) := by first | (rw [hji5] at H; exact H) | (simp only [hji5] at H ⊢; exact H)
    (try rw [hji5] at A4)
    by_cases c6 : 0 ≤ (ji5)
    · rw [if_pos c6] at H
      have c6b0 := eq_true c6
      have c6b1 : decide (0 ≤ (ji5)) = true := decide_eq_true c6
      clear c6
      obtain ⟨ji7, hji7⟩ : ∃ j_ : Int, (shl .u64 1 (ji5)) = j_ := ⟨_, rfl⟩
      replace H : (some (Go.bits .and .u64 (Go.bits .xor .u64 18446744073709551615 (IntKind.u64.wrap (a0 - 1))) (IntKind.u64.wrap ((ji7) - 1)), Go.bits .and .u64 a1 (IntKind.u64.wrap ((ji7) - 1)))) = some (r1, r2) := by first | (rw [hji7] at H; exact H) | (simp only [hji7] at H ⊢; exact H)
      (try rw [hji7] at A4)
      have hji7_ : (IntKind.u64.wrap (1 * 2 ^ min (ji5).toNat 64)) = ji7 := hji7
      have hji7z : (ji5) ≤ 64 → (IntKind.u64.wrap (1 * 2 ^ (ji5).toNat)) = ji7 := shl_small hji7
      have hji7u : (IntKind.u64.wrap (2 ^ min (ji5).toNat 64)) = ji7 := by have h_ := hji7_; rw [Int.one_mul] at h_; exact h_
      have hji7v : (ji5) ≤ 64 → (IntKind.u64.wrap (2 ^ (ji5).toNat)) = ji7 := fun hle_ => by have h_ := hji7z hle_; rw [Int.one_mul] at h_; exact h_
      simp only [Option.some.injEq, Prod.mk.injEq] at H
      obtain ⟨rfl, rfl⟩ := H
      go_enter Tryd.func108, Tryd.ntmps108
      go_wp2_with (first | ((with_reducible refine gate_callee (f := 110) rfl ?_); refine goesL_ (some 17) rfl rfl Tryd.func110 (by kernel_rfl) rfl #[.int .u64 (Go.bits .xor .u64 (IntKind.u64.wrap (a0 - 1)) a1)] rfl (by (try simp only [List.map_toArray, List.map_cons, List.map_nil]); first | done | rfl | (simp only [List.length_drop, List.length_take]; rfl)) ?_; (with_reducible refine (bits_Len64.calls (Go.bits .xor .u64 (IntKind.u64.wrap (a0 - 1)) a1) t220 _ A4.out).mono ?_); rintro e w' ⟨rfl, ⟨nd, rfl⟩⟩; refine ⟨_, rfl, ?_⟩))
      go_ret2
      exact ⟨by first | rfl | (simp; done) | (simp only [← hji5, ← hji7] <;> (first | rfl | simp)) | (simp [*]; done), by repeat (first | exact Drawn0.refl _ | apply Drawn0.step)⟩
    · rw [if_neg c6] at H
      exact absurd H (by simp)
def compact_RangeSize.f (a0 : Int) (a1 : Int) : Option (Int) := (compact_Decompose.f a0 a1).bind fun bt221 => ((bits_OnesCount64.f bt221.1).bind fun t223 => ((bits_OnesCount64.f bt221.2).bind fun t224 => (some (wrap64 (t223 + t224)))))
set_option maxHeartbeats 8000000 in
set_option maxRecDepth 100000 in
theorem compact_RangeSize.calls (a0 : Int) (a1 : Int) (r : Int) (w : World) (h : compact_RangeSize.f a0 a1 = some r) :
    Calls Tryd.prog 66 #[.int .u64 a0, .int .u64 a1] w fun e w' => e = .returned (.int .i64 r) ∧ Drawn0 w w' := by
  have H : ((compact_Decompose.f a0 a1).bind fun bt221 => ((bits_OnesCount64.f bt221.1).bind fun t223 => ((bits_OnesCount64.f bt221.2).bind fun t224 => (some (wrap64 (t223 + t224)))))) = some r := h
  clear h
  replace H := Option.bind_eq_some_iff.mp H
  obtain ⟨⟨t221, t222⟩, A30, H⟩ := H
  replace H : ((bits_OnesCount64.f t221).bind fun t223 => ((bits_OnesCount64.f t222).bind fun t224 => (some (wrap64 (t223 + t224))))) = some r := H
  have A3 := Aside0.mk A30
  clear A30
  replace H := Option.bind_eq_some_iff.mp H
  obtain ⟨t223, A40, H⟩ := H
  replace H : ((bits_OnesCount64.f t222).bind fun t224 => (some (wrap64 (t223 + t224)))) = some r := H
  have A4 := Aside0.mk A40
  clear A40
  replace H := Option.bind_eq_some_iff.mp H
  obtain ⟨t224, A50, H⟩ := H
  replace H : (some (wrap64 (t223 + t224))) = some r := H
  have A5 := Aside0.mk A50
  clear A50
  obtain rfl := Option.some.inj H
  go_enter Tryd.func66, Tryd.ntmps66
  go_wp2_with (first | ((with_reducible refine gate_callee (f := 108) rfl ?_); refine goesL_ (some 10) rfl rfl Tryd.func108 (by kernel_rfl) rfl #[.int .u64 a0, .int .u64 a1] rfl (by (try simp only [List.map_toArray, List.map_cons, List.map_nil]); first | done | rfl | (simp only [List.length_drop, List.length_take]; rfl)) ?_; (with_reducible refine (compact_Decompose.calls a0 a1 t221 t222 _ A3.out).mono ?_); rintro e w' ⟨rfl, ⟨nd, rfl⟩⟩; refine ⟨_, rfl, ?_⟩) | ((with_reducible refine gate_callee (f := 111) rfl ?_); refine goesL_ (some 14) rfl rfl Tryd.func111 (by kernel_rfl) rfl #[.int .u64 t221] rfl (by (try simp only [List.map_toArray, List.map_cons, List.map_nil]); first | done | rfl | (simp only [List.length_drop, List.length_take]; rfl)) ?_; (with_reducible refine (bits_OnesCount64.calls t221 t223 _ A4.out).mono ?_); rintro e w' ⟨rfl, ⟨nd, rfl⟩⟩; refine ⟨_, rfl, ?_⟩) | ((with_reducible refine gate_callee (f := 111) rfl ?_); refine goesL_ (some 16) rfl rfl Tryd.func111 (by kernel_rfl) rfl #[.int .u64 t222] rfl (by (try simp only [List.map_toArray, List.map_cons, List.map_nil]); first | done | rfl | (simp only [List.length_drop, List.length_take]; rfl)) ?_; (with_reducible refine (bits_OnesCount64.calls t222 t224 _ A5.out).mono ?_); rintro e w' ⟨rfl, ⟨nd, rfl⟩⟩; refine ⟨_, rfl, ?_⟩))
  go_ret
  exact ⟨by first | rfl | (simp; done) | (simp [*]; done), by repeat (first | exact Drawn0.refl _ | apply Drawn0.step)⟩
set_option maxHeartbeats 8000000 in
set_option maxRecDepth 100000 in
theorem compact_RangeFactory_NewRange.calls (pf : Addr) (b e sz : Int) (A : Option Addr) (n c : Nat) (hbe : b ≤ e) (hsz : compact_RangeSize.f b e = some sz) (hn : (n : Int) = sz) (w : World) :
    Calls Tryd.prog 69 #[.pointer (some pf), .int .u64 b, .int .u64 e, .slice A n c] w fun e' w' => ∃ g, e' = .returned (.tuple #[.pointer (some ⟨g, 0, none⟩), .nilIface]) ∧ w'.heap[g]? = some (.cells #[.pointer (some pf), .int .u64 b, .int .u64 e, .slice A n c] 167 (0, 0)) ∧ w.heap.size ≤ g ∧ Below w.heap.size w w' := by
  subst hn
  have d1 : decide (e < b) = false := decide_eq_false (by omega)
  have HZ := Aside0.mk hsz
  have HB := Aside0.mk (Below.refl w.heap.size w)
  clear hsz hbe
  go_enter Tryd.func69, Tryd.ntmps69
  go_wp2_with (first | ((with_reducible refine gate_callee (f := 66) rfl ?_); refine goesL_ (some 20) rfl rfl Tryd.func66 (by kernel_rfl) rfl #[.int .u64 b, .int .u64 e] rfl (by (try simp only [List.map_toArray, List.map_cons, List.map_nil]); first | done | rfl) ?_; (with_reducible refine (compact_RangeSize.calls b e _ _ HZ.out).mono ?_); rintro e6 w6 ⟨rfl, hd⟩; refine ⟨_, rfl, ?_⟩; (have HB1 := Aside0.mk (show Below w.heap.size w w6 by obtain ⟨nn, rfl⟩ := hd; exact pw_below_drewN HB.out nn)); clear hd HB) | ((with_reducible refine gate_dst (N := 30) rfl ?_); refine box_event ?hg (N := 30) ?hd (cs := #[.pointer (some pf), .int .u64 b, .int .u64 e, .slice A n c]) (t := 167) ?hr ?_; (case hd => rfl); (case hg => rfl); (case hr => first | (go_simp; done) | (go_simp; rfl)); intro gb hg w4 hbox hb; (have BK := Aside0.mk hbox); (have HB2 := Aside0.mk hb); (have GB := Aside0.mk hg); clear hbox hb hg))
  go_ret2
  exact ⟨_, rfl, BK.out, by rw [GB.out]; exact HB1.out.size, below_step HB1.out HB2.out⟩
def compact_NewNodeID.f (a0 : Int) (a1 : Int) : Option (Int × Int) := some (a0, a1)
set_option maxHeartbeats 8000000 in
set_option maxRecDepth 100000 in
theorem compact_NewNodeID.calls (a0 : Int) (a1 : Int) (r1 : Int) (r2 : Int) (w : World) (h : compact_NewNodeID.f a0 a1 = some (r1, r2)) :
    Calls Tryd.prog 107 #[.int .u64 a0, .int .u64 a1] w fun e w' => e = .returned (.agg #[.int .u64 r1, .int .u64 r2]) ∧ Below w.heap.size w w' := by
  have hu107 := Tryd.underlying107
  have HB := Aside0.mk (Below.refl w.heap.size w)
  have H : (some (a0, a1)) = some (r1, r2) := h
  clear h
  simp only [Option.some.injEq, Prod.mk.injEq] at H
  obtain ⟨rfl, rfl⟩ := H
  go_enter Tryd.func107, Tryd.ntmps107
  go_wp2_with (first | ((with_reducible refine gate_dst (N := 4) rfl ?_); refine box_event ?hg (N := 4) ?hd (cs := #[.int .u64 0, .int .u64 0]) (t := 107) ?hr ?_; (case hd => rfl); (case hg => rfl); (case hr => first | (go_simp; done) | (go_simp; rfl)); intro gb225 hg w3 hbox hb; have n0_ := Aside0.mk (below_step (by repeat (first | (with_reducible first | exact HB.out | apply below_alloc | apply pw_below_drewN | apply below_drew1) | exact HB.out)) hb); have n1_ := Aside0.mk (hbox); have n2_ := Aside0.mk ((by rw [hg]; exact (below_size (by repeat (first | (with_reducible first | exact HB.out | apply below_alloc | apply pw_below_drewN | apply below_drew1) | exact HB.out))) : w.heap.size ≤ gb225)); have n3_ := Aside0.mk ((by rw [hg]; exact (below_size (by repeat (first | (with_reducible first | exact HB.out | apply below_alloc | apply pw_below_drewN | apply below_drew1) | exact HB.out))) : w.heap.size ≤ gb225)); clear HB; have HB := n0_; have BK225 := n1_; have GW225 := n2_; have GE225 := n3_; clear n0_ n1_ n2_ n3_; clear hb hbox hg; have hcz4_0 : w3.cell? ⟨gb225, 0, none⟩ = some (.int .u64 0) := (blk_cell BK225.out 0).trans rfl; have hcz4_1 : w3.cell? ⟨gb225, 1, none⟩ = some (.int .u64 0) := (blk_cell BK225.out 1).trans rfl; have hfz4_0 := blk_frozen BK225.out 0; have hfz4_1 := blk_frozen BK225.out 1))
  refine bodyPost_ret (results_cell_row rfl _ _ gb225 107 #[.int .u64 a0, .int .u64 a1] (0, 0) _ rfl (by (with_reducible repeat (first | refine blk_drewN ?_ _ | refine blk_drew ?_ | refine blk_alloc ?_ _)); refine blk_put (cs := #[.int .u64 a0, .int .u64 0]) ?_ 1 _ rfl; (with_reducible repeat (first | refine blk_drewN ?_ _ | refine blk_drew ?_ | refine blk_alloc ?_ _)); refine blk_put (cs := #[.int .u64 0, .int .u64 0]) ?_ 0 _ rfl; (with_reducible repeat (first | refine blk_drewN ?_ _ | refine blk_drew ?_ | refine blk_alloc ?_ _)); exact BK225.out) Tryd.underlying107 rfl (by kernel_rfl)) rfl ?_
  exact ⟨by first | rfl | (simp [errW_none, errW_some] <;> rfl) | (simp [*, errW_none, errW_some] <;> rfl), by repeat (first | (with_reducible first | exact HB.out | apply below_alloc | apply pw_below_drewN | apply below_drew1 | refine below_set ?_ GE225.out) | exact HB.out)⟩
def bits_TrailingZeros64.f (a0 : Int) : Option (Int) := if 0 ≤ a0 then (if a0 ≤ 18446744073709551615 then (some ((Lib.ctz 64 a0.toNat : Nat) : Int)) else (none)) else (none)
theorem bits_TrailingZeros64.key (x a : Nat) (hx : x < 18446744073709551616) (hx0 : x ≠ 0) (hlow : x &&& (18446744073709551616 - x) = a) :
    IntKind.u64.wrap (bits BinOp.and IntKind.u64 (x : Int) (IntKind.u64.wrap (-(x : Int))) * 285870213051353865) / 288230376151711744 = ((a * 285870213051353865 % 18446744073709551616 / 288230376151711744 : Nat) : Int) := by
  have hw : ∀ n : Int, IntKind.u64.wrap n = n % 18446744073709551616 := fun n => by simp [IntKind.wrap, IntKind.bits, IntKind.signed]
  have e1 : IntKind.u64.wrap (-(x : Int)) = ((18446744073709551616 - x : Nat) : Int) := by rw [hw]; omega
  rw [e1, bits_and_u64_nat x _ hx (by omega), hlow, hw]
  omega
set_option maxHeartbeats 1000000 in
theorem bits_TrailingZeros64.core (x k idx : Nat) (w : World) (hx0 : ((x : Int) == 0) = false)
    (key : IntKind.u64.wrap (bits BinOp.and IntKind.u64 (x : Int) (IntKind.u64.wrap (-(x : Int))) * 285870213051353865) / 288230376151711744 = (idx : Int))
    (hi : idx < 64) (hk : k < 64) (hcell : w.cell? ⟨0, idx, none⟩ = some (.int .u8 k)) :
    Calls Tryd.prog 109 #[.int .u64 x] w fun e w' => e = .returned (.int .i64 k) ∧ Drawn0 w w' := by
  go_enter Tryd.func109, Tryd.ntmps109
  go_wp2_with (simp only [key])
  go_ret
  exact ⟨rfl, Drawn0.refl _⟩
theorem bits_TrailingZeros64.zero (w : World) :
    Calls Tryd.prog 109 #[.int .u64 0] w fun e w' => e = .returned (.int .i64 64) ∧ Drawn0 w w' := by
  go_enter Tryd.func109, Tryd.ntmps109
  go_wp2
  go_ret
  exact ⟨rfl, Drawn0.refl _⟩
theorem bits_TrailingZeros64.calls (a0 : Int) (r : Int) (w : World) (hGT : GlobT w) (h : bits_TrailingZeros64.f a0 = some r) :
    Calls Tryd.prog 109 #[.int .u64 a0] w fun e w' => e = .returned (.int .i64 r) ∧ Drawn0 w w' := by
  have hh : (0 ≤ a0 ∧ a0 ≤ 18446744073709551615) ∧ r = ((Lib.ctz 64 a0.toNat : Nat) : Int) := by
    unfold bits_TrailingZeros64.f at h
    by_cases h0 : 0 ≤ a0
    · rw [if_pos h0] at h
      by_cases h1 : a0 ≤ 18446744073709551615
      · rw [if_pos h1] at h
        exact ⟨⟨h0, h1⟩, (Option.some.inj h).symm⟩
      · rw [if_neg h1] at h
        exact absurd h (by simp)
    · rw [if_neg h0] at h
      exact absurd h (by simp)
  clear h
  obtain ⟨⟨h0, h1⟩, hr⟩ := hh
  subst hr
  obtain ⟨x, rfl⟩ := Int.eq_ofNat_of_zero_le h0
  rw [Int.toNat_natCast]
  by_cases hx0 : x = 0
  · subst hx0
    exact bits_TrailingZeros64.zero w
  · have hx : x < 2 ^ 64 := by rw [show 2 ^ 64 = 18446744073709551616 from by decide]; omega
    obtain ⟨hlow, hk⟩ := Lib.lowest_bit 64 x hx0 hx
    obtain ⟨hi, htab⟩ := Lib.deBruijn64_at _ hk
    have hcell := hGT.out _ hi
    rw [htab] at hcell
    exact bits_TrailingZeros64.core x _ _ w (by simp; omega) (bits_TrailingZeros64.key x _ (by omega) hx0 hlow) hi hk hcell
end Go.Proofs.YtijldedhcjkhiaaDoor.T
