-- laid by xprint.py (a program of this session over the kit's print); Lean checks it
import Derived.Test.YtijldedhcjkhiaaX0
import Derived.Test.YtijldedhcjkhiaaX2
import Derived.Test.YtijldedhcjkhiaaX6
namespace Go.Proofs.Ytijldedhcjkhiaa.X
open Go.RowKit Go.Proofs.YtijldedhcjkhiaaW.PrintWords Go.Proofs.YtijldedhcjkhiaaW.PrintLast Go.Proofs.YtijldedhcjkhiaaW.PrintMore
attribute [local go_sem] max2_int min2_int max_two min_two max_three min_three max_four min_four   -- for this text's walks alone
set_option linter.unusedVariables false
set_option linter.unusedSimpArgs false

/-! ### impl_RootOfInclusion: function 11 -/
def impl_RootOfInclusion.f (k : Nat) (a0_0 : Int) (a0_1 : Int) (a0_2 : Int) (a0_3 : Int) (a0_4 : Int) (a0_5 : Int) (a1 : Int) (a2 : Int) (l3 : List Int) (l4 : List (List Int)) : Option (List Int × Bool) := (some (([] : List Int) : List Int)).bind fun y289 => (if y289.length + l3.length < 140737488355328 then ((impl_texts.f k l4).bind fun t295 => ((proof_RootFromInclusionProof.f k a0_0 a0_1 a0_2 a0_3 a0_4 a0_5 a1 a2 (y289 ++ l3) t295).bind fun bt298 => (if bt298.2.isNone = true then (some (bt298.1, true)) else (some (bt298.1, false))))) else (none))
theorem impl_RootOfInclusion.mono : ∀ a0 a1 a2 a3 a4 a5 a6 a7 a8 a9 k, LeO (impl_RootOfInclusion.f k a0 a1 a2 a3 a4 a5 a6 a7 a8 a9) (impl_RootOfInclusion.f (k + 1) a0 a1 a2 a3 a4 a5 a6 a7 a8 a9) := by
  intro a0 a1 a2 a3 a4 a5 a6 a7 a8 a9 k
  unfold impl_RootOfInclusion.f
  repeat' first
      | (with_reducible exact impl_texts.mono _ _)
      | (with_reducible exact proof_RootFromInclusionProof.mono _ _ _ _ _ _ _ _ _ _ _)
      | (with_reducible exact LeO.refl _)
      | (with_reducible exact LeO.none _)
      | (with_reducible refine LeO.ite ?_ ?_)
      | (with_reducible refine LeO.bind ?_ (fun _ => ?_))
      | exact impl_texts.mono _ _
      | exact proof_RootFromInclusionProof.mono _ _ _ _ _ _ _ _ _ _ _
      | exact LeO.none _
      | refine LeO.ite ?_ ?_
      | refine LeO.bind ?_ (fun _ => ?_)
def impl_RootOfInclusion.T1 : Bool × List (List Nat × List Nat) := (true, [([], []), ([0], [0]), ([1], [1]), ([], []), ([], []), ([], []), ([], []), ([5, 6], [5, 6]), ([], []), ([8, 7], [8]), ([2, 3, 4, 7, 9, 9], [2, 3, 4, 7, 9]), ([10], [10]), ([11], [11]), ([11], [11]), ([12, 10, 0, 1, 2, 3, 4, 5, 6, 7, 8, 9, 10, 11, 12], [12]), ([13, 14, 0, 1, 2, 3, 4, 5, 6, 7, 8, 9, 10, 11, 12, 13, 14], [13])])
def impl_RootOfInclusion.B1 : List Nat := [0, 1, 3, 0, 0, 0, 0, 96, 0, 480, 1023, 2047, 4095, 4095, 8191, 32767]
theorem impl_RootOfInclusion.tab1 : rtab .any (opsOf Try.f11 1) = impl_RootOfInclusion.T1 := by kernel_rfl
theorem impl_RootOfInclusion.bits1 : waitsOk impl_RootOfInclusion.T1.2 impl_RootOfInclusion.B1 = true := by kernel_rfl
set_option maxHeartbeats 8000000 in
set_option maxRecDepth 100000 in
theorem impl_RootOfInclusion.calls (k : Nat) (a0_0 : Int) (a0_1 : Int) (a0_2 : Int) (a0_3 : Int) (a0_4 : Int) (a0_5 : Int) (a1 : Int) (a2 : Int) (A3 : Option Addr) (c3 : Nat) (l3 : List Int) (A4 : Option Addr) (c4 : Nat) (l4 : List (List Int)) (r1 : List Int) (r2 : Bool) (w : World) (hr3 : Kd.C (Kd.int .u8) w A3 l3.length l3) (hc3 : l3.length ≤ c3) (hr4 : Kd.C (Kd.slice 5 (Kd.int .u8)) w A4 l4.length l4) (hc4 : l4.length ≤ c4) (h : impl_RootOfInclusion.f k a0_0 a0_1 a0_2 a0_3 a0_4 a0_5 a1 a2 l3 l4 = some (r1, r2)) :
    Calls Try.prog 11 #[.agg #[.int .i64 a0_0, .int .i64 a0_1, .int .i64 a0_2, .int .u64 a0_3, .int .u64 a0_4, .int .u64 a0_5], .int .u64 a1, .int .u64 a2, .slice A3 l3.length c3, .slice A4 l4.length c4] w fun e w' => ∃ v0_ : Value, e = .returned (.tuple #[v0_, .bool r2]) ∧ Kd.V (Kd.int .u8) 5 w' w.heap.size (fun k_ => (w.heap.size ≤ k_)) v0_ r1 ∧ Below w.heap.size w w' := by
  have hu24 := Try.underlying24
  have hu40 := Try.underlying40
  have hu44 := Try.underlying44
  have HR3 := Aside0.mk hr3
  have HC3 := Aside0.mk hc3
  clear hr3 hc3
  have HR4 := Aside0.mk hr4
  have HC4 := Aside0.mk hc4
  clear hr4 hc4
  have HB := Aside0.mk (Below.refl w.heap.size w)
  have H : ((some (([] : List Int) : List Int)).bind fun y289 => (if y289.length + l3.length < 140737488355328 then ((impl_texts.f k l4).bind fun t295 => ((proof_RootFromInclusionProof.f k a0_0 a0_1 a0_2 a0_3 a0_4 a0_5 a1 a2 (y289 ++ l3) t295).bind fun bt298 => (if bt298.2.isNone = true then (some (bt298.1, true)) else (some (bt298.1, false))))) else (none))) = some (r1, r2) := h
  clear h
  obtain ⟨y289, hy289⟩ : ∃ y_ : List Int, y_ = (([] : List Int)) := ⟨_, rfl⟩
  replace H : (if y289.length + l3.length < 140737488355328 then ((impl_texts.f k l4).bind fun t295 => ((proof_RootFromInclusionProof.f k a0_0 a0_1 a0_2 a0_3 a0_4 a0_5 a1 a2 (y289 ++ l3) t295).bind fun bt298 => (if bt298.2.isNone = true then (some (bt298.1, true)) else (some (bt298.1, false))))) else (none)) = some (r1, r2) := by first | (rw [hy289]; with_reducible exact H) | (have H2_ := (Option.bind_some _ _).symm.trans H; rw [hy289]; with_reducible exact H2_) | (have H2_ := (Option.bind_some _ _).symm.trans H; with_reducible exact H2_) | with_reducible exact H | (rw [hy289]; exact H) | exact H
  have Ny289 := Aside0.mk hy289
  clear hy289
  by_cases c6 : y289.length + l3.length < 140737488355328
  · rw [if_pos c6] at H
    have LMc6 := Aside0.mk c6
    clear c6
    obtain ⟨y292, hy292⟩ : ∃ y_ : List Int, y_ = (y289 ++ l3) := ⟨_, rfl⟩
    replace H : ((impl_texts.f k l4).bind fun t295 => ((proof_RootFromInclusionProof.f k a0_0 a0_1 a0_2 a0_3 a0_4 a0_5 a1 a2 y292 t295).bind fun bt298 => (if bt298.2.isNone = true then (some (bt298.1, true)) else (some (bt298.1, false))))) = some (r1, r2) := by first | (rw [hy292]; with_reducible exact H) | (have H2_ := (Option.bind_some _ _).symm.trans H; rw [hy292]; with_reducible exact H2_) | (have H2_ := (Option.bind_some _ _).symm.trans H; with_reducible exact H2_) | with_reducible exact H | (rw [hy292]; exact H) | exact H
    have Ny292 := Aside0.mk hy292
    clear hy292
    replace H := Option.bind_eq_some_iff.mp H
    obtain ⟨t295, A70, H⟩ := H
    replace H : ((proof_RootFromInclusionProof.f k a0_0 a0_1 a0_2 a0_3 a0_4 a0_5 a1 a2 y292 t295).bind fun bt298 => (if bt298.2.isNone = true then (some (bt298.1, true)) else (some (bt298.1, false)))) = some (r1, r2) := H
    have A7 := Aside0.mk A70
    clear A70
    replace H := Option.bind_eq_some_iff.mp H
    obtain ⟨⟨t298, t301⟩, A80, H⟩ := H
    replace H : (if t301.isNone = true then (some (t298, true)) else (some (t298, false))) = some (r1, r2) := H
    have A8 := Aside0.mk A80
    clear A80
    rcases t301 with _ | q303
    · have H1 : (some (t298, true)) = some (r1, r2) := by rw [if_pos (show (none : Option Int).isNone = true by rfl)] at H; exact H
      clear H
      have H := H1
      clear H1
      try simp only [errW_none, errW_some]
      simp only [Option.some.injEq, Prod.mk.injEq] at H
      obtain ⟨rfl, rfl⟩ := H
      go_enter Try.func11, Try.ntmps11
      try go_wp2_with (first | ((with_reducible refine gate_dst (N := 5) rfl ?_); refine box_event ?hg (N := 5) ?hd (cs := #[.int .i64 a0_0, .int .i64 a0_1, .int .i64 a0_2, .int .u64 a0_3, .int .u64 a0_4, .int .u64 a0_5]) (t := 24) ?hr ?_; (case hd => rfl); (case hg => rfl); (case hr => first | (go_simp; done) | (go_simp; rfl)); intro gb288 hg w9 hbox hb; have n0_ := Aside0.mk (below_step (by repeat (first | (with_reducible first | exact HB.out | apply below_alloc | apply pw_below_drewN | apply below_drew1) | exact HB.out)) hb); have n1_ := Aside0.mk (hbox); have n2_ := Aside0.mk ((by rw [hg]; exact (below_size (by repeat (first | (with_reducible first | exact HB.out | apply below_alloc | apply pw_below_drewN | apply below_drew1) | exact HB.out))) : w.heap.size ≤ gb288)); have n3_ := Aside0.mk ((by rw [hg]; exact (below_size (by repeat (first | (with_reducible first | exact HB.out | apply below_alloc | apply pw_below_drewN | apply below_drew1) | exact HB.out))) : w.heap.size ≤ gb288)); clear HB; have HB := n0_; have BK288 := n1_; have GW288 := n2_; have GE288 := n3_; clear n0_ n1_ n2_ n3_; clear hb hbox hg))
      have n0_ := Aside0.mk (blk_drew BK288.out)
      have n1_ := Aside0.mk (below_drew1 HB.out)
      clear BK288
      clear HB
      have BK288 := n0_
      have HB := n1_
      clear n0_ n1_
      refine start_ (n := 16) (S := fun w' => w'.cell? ⟨gb288, 0, none⟩ = some (.int .i64 a0_0) ∧ w'.cell? ⟨gb288, 1, none⟩ = some (.int .i64 a0_1) ∧ w'.cell? ⟨gb288, 2, none⟩ = some (.int .i64 a0_2) ∧ w'.cell? ⟨gb288, 3, none⟩ = some (.int .u64 a0_3) ∧ w'.cell? ⟨gb288, 4, none⟩ = some (.int .u64 a0_4) ∧ w'.cell? ⟨gb288, 5, none⟩ = some (.int .u64 a0_5)) (ds := []) #[false, false, false, false, false, false, false, false, false, false, false, false, false, false, false, false] (by kernel_rfl) rfl rfl ⟨(blk_cell BK288.out 0).trans rfl, (blk_cell BK288.out 1).trans rfl, (blk_cell BK288.out 2).trans rfl, (blk_cell BK288.out 3).trans rfl, (blk_cell BK288.out 4).trans rfl, (blk_cell BK288.out 5).trans rfl⟩ (fun hHeld => ?_); refine with_tabW impl_RootOfInclusion.tab1 impl_RootOfInclusion.bits1 (fun HT_ HW_ => ?_)
      generalize w9.drew = w10 at BK288 HB hHeld ⊢
      refine pure_ (i := 3) (N := some 18) (v := ?_) (a' := ?_) #[false, false, false, true, false, false, false, false, false, false, false, false, false, false, false, false] rfl rfl (any_of HT_.out (by kernel_rfl)) (fun _ _ _ h => h) (Or.inl ⟨by rfl, ?_⟩) ?_ ?_
      rotate_left
      · intro w'
        go_simp
        with_reducible rfl
      rotate_left
      · simp only [Act.put, List.setIfInBounds_toArray, List.set_cons_zero, List.set_cons_succ, i64_w, i32_w]
        rfl
      refine pure_ (i := 4) (N := some 19) (v := ?_) (a' := ?_) #[false, false, false, true, true, false, false, false, false, false, false, false, false, false, false, false] rfl rfl (any_of HT_.out (by kernel_rfl)) (fun _ _ _ h => h) (Or.inl ⟨by rfl, ?_⟩) ?_ ?_
      rotate_left
      · intro w'
        go_simp
        with_reducible rfl
      rotate_left
      · simp only [Act.put, List.setIfInBounds_toArray, List.set_cons_zero, List.set_cons_succ, i64_w, i32_w]
        rfl
      refine pure_ (i := 6) (N := some 21) (v := ?_) (a' := ?_) #[false, false, false, true, true, false, true, false, false, false, false, false, false, false, false, false] rfl rfl (any_of HT_.out (by kernel_rfl)) (fun _ _ _ h => h) (Or.inl ⟨by rfl, ?_⟩) ?_ ?_
      rotate_left
      · intro w'
        go_simp
        with_reducible rfl
      rotate_left
      · simp only [Act.put, List.setIfInBounds_toArray, List.set_cons_zero, List.set_cons_succ, i64_w, i32_w]
        rfl
      refine pure_ (i := 8) (N := some 23) (v := ?_) (a' := ?_) #[false, false, false, true, true, false, true, false, true, false, false, false, false, false, false, false] rfl rfl (any_of HT_.out (by kernel_rfl)) (fun _ _ _ h => h) (Or.inl ⟨by rfl, ?_⟩) ?_ ?_
      rotate_left
      · intro w'
        go_simp
        with_reducible rfl
      rotate_left
      · simp only [Act.put, List.setIfInBounds_toArray, List.set_cons_zero, List.set_cons_succ, i64_w, i32_w]
        rfl
      refine take_ (i := 0) (N := some 15) (v := ?_) (a' := ?_) #[true, false, false, true, true, false, true, false, true, false, false, false, false, false, false, false] rfl rfl (take_ofW HT_.out HW_.out (by kernel_rfl)) (fun _ _ _ h => h) (Or.inl ⟨by rfl, ?_⟩) hHeld ?_ ?_
      rotate_left
      · rintro w' ⟨s0, s1, s2, s3, s4, s5⟩
        go_simp
        with_reducible rfl
      rotate_left
      · simp only [Act.put, List.setIfInBounds_toArray, List.set_cons_zero, List.set_cons_succ, i64_w, i32_w]
        rfl
      refine pure_ (i := 1) (N := some 16) (v := ?_) (a' := ?_) #[true, true, false, true, true, false, true, false, true, false, false, false, false, false, false, false] rfl rfl (any_of HT_.out (by kernel_rfl)) (fun _ _ _ h => h) (Or.inl ⟨by rfl, ?_⟩) ?_ ?_
      rotate_left
      · intro w'
        go_simp
        with_reducible rfl
      rotate_left
      · simp only [Act.put, List.setIfInBounds_toArray, List.set_cons_zero, List.set_cons_succ, i64_w, i32_w]
        rfl
      refine pure_ (i := 2) (N := some 17) (v := ?_) (a' := ?_) #[true, true, true, true, true, false, true, false, true, false, false, false, false, false, false, false] rfl rfl (any_of HT_.out (by kernel_rfl)) (fun _ _ _ h => h) (Or.inl ⟨by rfl, ?_⟩) ?_ ?_
      rotate_left
      · intro w'
        go_simp
        with_reducible rfl
      rotate_left
      · simp only [Act.put, List.setIfInBounds_toArray, List.set_cons_zero, List.set_cons_succ, i64_w, i32_w]
        rfl
      refine one_ (i := 5) (N := some 20) #[true, true, true, true, true, true, true, false, true, false, false, false, false, false, false, false] rfl rfl (one_of HT_.out (by kernel_rfl)) (by decide) (fun K hK => ?_)
      refine Kd.R_lit_step (Kd.int .u8) _ 5 ?hg (N := 20) ?hd (xs := ([] : List Int)) (inner := []) (ok := fun _ => True) (okp := fun _ => True) ?hr ?hp (fun _ hk => hk) trivial (Below.refl _ _) (Nat.le_refl _) (by simp) ?_; (case hd => rfl); (case hg => rfl); (case hr => first | (go_simp; done) | (go_simp; rfl)); (case hp => exact (Reps.none _ _))
      intro v290 w11 ho12 hb hg_ hnew_
      clear hg_ hnew_
      (first | rw [← Ny289.out] at ho12 | (simp only [Int.reduceToNat] at ho12; rw [← Ny289.out] at ho12))
      have n0_ := Aside0.mk (Kd.R_lower (Kd.R_newM (M := fun k_ => (w.heap.size ≤ k_)) ho12 (below_size (by repeat (first | (with_reducible first | exact HB.out | apply below_alloc | apply pw_below_drewN | apply below_drew1 | refine below_set ?_ GE288.out) | exact HB.out))) (fun k_ h_ => h_)) (below_size (by repeat (first | (with_reducible first | exact HB.out | apply below_alloc | apply pw_below_drewN | apply below_drew1 | refine below_set ?_ GE288.out) | exact HB.out))))
      have n1_ := Aside0.mk (blk_below (g := gb288) (o := .cells #[.int .i64 a0_0, .int .i64 a0_1, .int .i64 a0_2, .int .u64 a0_3, .int .u64 a0_4, .int .u64 a0_5] 24 (0, 0)) (by (with_reducible repeat (first | refine blk_drewN ?_ _ | refine blk_drew ?_ | refine blk_alloc ?_ _)); exact BK288.out) hb)
      have n2_ := Aside0.mk (below_step (by repeat (first | (with_reducible first | exact HB.out | apply below_alloc | apply pw_below_drewN | apply below_drew1 | refine below_set ?_ GE288.out) | exact HB.out)) hb)
      clear BK288
      clear HB
      have HO291 := n0_
      have BK288 := n1_
      have HB := n2_
      clear n0_ n1_ n2_
      clear hb ho12
      refine hK.out _ _ ⟨(blk_cell BK288.out 0).trans rfl, (blk_cell BK288.out 1).trans rfl, (blk_cell BK288.out 2).trans rfl, (blk_cell BK288.out 3).trans rfl, (blk_cell BK288.out 4).trans rfl, (blk_cell BK288.out 5).trans rfl⟩ (fun hHeld => ?_)
      clear hK K
      refine norm_ (a' := ?_) ?_ ?_
      rotate_left
      · show Act.put _ (some 20) _ = _
        simp only [Act.put, List.setIfInBounds_toArray, List.set_cons_zero, List.set_cons_succ, i64_w, i32_w]
        rfl
      refine one_ (i := 7) (N := some 22) #[true, true, true, true, true, true, true, true, true, false, false, false, false, false, false, false] rfl rfl (one_of HT_.out (by kernel_rfl)) (by decide) (fun K hK => ?_)
      refine Kd.R_append_rows_step (Kd.int .u8) (w0 := w) w.heap.size (by rfl) (.tmp 20) (.tmp 21) 25 5 (.int .u8 0) 1 rfl Try.underlying25 info5 rfl (by decide) (by omega) v290 y289 l3 _ _ _ (fun k_ => (w.heap.size ≤ k_)) (fun _ => False) rfl rfl ?aO ?aR (fun _ _ h => h) (fun _ h => h.elim) ?aF ?aB ?aS ?aL ?_
      (case aR => repeat (first | exact (Kd.C_below HR3.out HB.out) | (with_reducible refine Kd.C_alloc ?_ _) | (with_reducible refine Kd.C_drewN ?_ _) | (with_reducible refine Kd.C_drew ?_)))
      (case aB => exact (by repeat (first | (with_reducible first | exact HB.out | apply below_alloc | apply pw_below_drewN | apply below_drew1 | refine below_set ?_ GE288.out) | exact HB.out)))
      (case aF => exact (fun k_ hk => (Nat.le_trans (below_size (by repeat (first | (with_reducible first | exact HB.out | apply below_alloc | apply pw_below_drewN | apply below_drew1 | refine below_set ?_ GE288.out) | exact HB.out))) hk)))
      (case aO => exact (by (with_reducible repeat (first | apply Kd.R_alloc | apply Kd.R_drewN | apply Kd.R_drew)); exact Kd.R_mono HO291.out (fun _ hk => hk.1)))
      (case aS => exact (below_size (by repeat (first | (with_reducible first | exact HB.out | apply below_alloc | apply pw_below_drewN | apply below_drew1 | refine below_set ?_ GE288.out) | exact HB.out))))
      (case aL => have := LMc6.out; omega)
      intro v293 w13 ho hb hg hat
      rw [← Ny292.out] at ho
      have n0_ := Aside0.mk (blk_grown (g := gb288) (o := .cells #[.int .i64 a0_0, .int .i64 a0_1, .int .i64 a0_2, .int .u64 a0_3, .int .u64 a0_4, .int .u64 a0_5] 24 (0, 0)) (by (with_reducible repeat (first | refine blk_drewN ?_ _ | refine blk_drew ?_ | refine blk_alloc ?_ _)); exact BK288.out) hg (Kd.R_ne HO291.out BK288.out (by decide)))
      have n1_ := Aside0.mk (hb)
      have n2_ := Aside0.mk (ho)
      clear BK288
      clear HB
      clear HO291
      have BK288 := n0_
      have HB := n1_
      have HO294 := n2_
      clear n0_ n1_ n2_
      clear ho hb hg hat
      refine hK.out _ _ ⟨(blk_cell BK288.out 0).trans rfl, (blk_cell BK288.out 1).trans rfl, (blk_cell BK288.out 2).trans rfl, (blk_cell BK288.out 3).trans rfl, (blk_cell BK288.out 4).trans rfl, (blk_cell BK288.out 5).trans rfl⟩ (fun hHeld => ?_)
      clear hK K
      refine norm_ (a' := ?_) ?_ ?_
      rotate_left
      · show Act.put _ (some 22) _ = _
        simp only [Act.put, List.setIfInBounds_toArray, List.set_cons_zero, List.set_cons_succ, i64_w, i32_w]
        rfl
      refine one_ (i := 9) (N := some 24) #[true, true, true, true, true, true, true, true, true, true, false, false, false, false, false, false] rfl rfl (one_of HT_.out (by kernel_rfl)) (by decide) (fun K hK => ?_)
      refine goes_ Try.func15 (by kernel_rfl) rfl #[.slice A4 l4.length c4] (by rfl) rfl rfl (by (try simp only [List.map_toArray, List.map_cons, List.map_nil]); first | done | rfl | (simp only [List.length_drop, List.length_take]; rfl)) ?_
      with_reducible refine (impl_texts.calls k _ _ l4 t295 _ ?side1 ?side2 A7.out).mono ?_
      (case side1 => repeat (first | exact (Kd.C_below HR4.out HB.out) | (with_reducible refine Kd.C_alloc ?_ _) | (with_reducible refine Kd.C_drewN ?_ _) | (with_reducible refine Kd.C_drew ?_)))
      (case side2 => exact HC4.out)
      rintro e w14 ⟨v296, rfl, ho0, hb⟩
      refine ⟨_, rfl, ?_⟩
      have n0_ := Aside0.mk (Kd.R_below (by (with_reducible repeat (first | apply Kd.R_alloc | apply Kd.R_drewN | apply Kd.R_drew)); exact HO294.out) hb)
      have n1_ := Aside0.mk (Kd.S_lower (Kd.S_new' (Kd.S_newM (M := fun k_ => (w.heap.size ≤ k_)) ho0 (below_size (by repeat (first | (with_reducible first | exact HB.out | apply below_alloc | apply pw_below_drewN | apply below_drew1 | refine below_set ?_ GE288.out) | exact HB.out))) (fun k_ h_ => h_)) (Kd.R_lt (by (with_reducible repeat (first | apply Kd.R_alloc | apply Kd.R_drewN | apply Kd.R_drew)); exact HO294.out))) (below_size (by repeat (first | (with_reducible first | exact HB.out | apply below_alloc | apply pw_below_drewN | apply below_drew1 | refine below_set ?_ GE288.out) | exact HB.out))))
      have n2_ := Aside0.mk (blk_below (g := gb288) (o := .cells #[.int .i64 a0_0, .int .i64 a0_1, .int .i64 a0_2, .int .u64 a0_3, .int .u64 a0_4, .int .u64 a0_5] 24 (0, 0)) (by (with_reducible repeat (first | refine blk_drewN ?_ _ | refine blk_drew ?_ | refine blk_alloc ?_ _)); exact BK288.out) hb)
      have n3_ := Aside0.mk (below_step (by repeat (first | (with_reducible first | exact HB.out | apply below_alloc | apply pw_below_drewN | apply below_drew1 | refine below_set ?_ GE288.out) | exact HB.out)) hb)
      clear HO294
      clear BK288
      clear HB
      have HO294 := n0_
      have HO297 := n1_
      have BK288 := n2_
      have HB := n3_
      clear n0_ n1_ n2_ n3_
      (try clear hb)
      (try clear hb2)
      (try clear hk)
      (try clear hi)
      (try clear ho0)
      obtain ⟨Ao15, co15, eo15⟩ := Kd.R_slice HO294.out
      (first | subst eo15 | (injection eo15 with f1_ f2_ f3_; have f4_ := f1_.symm; have f5_ := f3_.symm; clear f1_ f2_ f3_; subst f4_; subst f5_))
      obtain ⟨Ao16, co16, eo16⟩ := Kd.S_slice HO297.out
      (first | subst eo16 | (injection eo16 with f1_ f2_ f3_; have f4_ := f1_.symm; have f5_ := f3_.symm; clear f1_ f2_ f3_; subst f4_; subst f5_))
      refine hK.out _ _ ⟨(blk_cell BK288.out 0).trans rfl, (blk_cell BK288.out 1).trans rfl, (blk_cell BK288.out 2).trans rfl, (blk_cell BK288.out 3).trans rfl, (blk_cell BK288.out 4).trans rfl, (blk_cell BK288.out 5).trans rfl⟩ (fun hHeld => ?_)
      clear hK K
      refine norm_ (a' := ?_) ?_ ?_
      rotate_left
      · show Act.put _ (some 24) _ = _
        simp only [Act.put, List.setIfInBounds_toArray, List.set_cons_zero, List.set_cons_succ, i64_w, i32_w]
        rfl
      refine one_ (i := 10) (N := some 25) #[true, true, true, true, true, true, true, true, true, true, true, false, false, false, false, false] rfl rfl (one_of HT_.out (by kernel_rfl)) (by decide) (fun K hK => ?_)
      refine goes_ Try.func18 (by kernel_rfl) rfl #[.iface 40 (.agg #[.int .i64 a0_0, .int .i64 a0_1, .int .i64 a0_2, .int .u64 a0_3, .int .u64 a0_4, .int .u64 a0_5]), .int .u64 a1, .int .u64 a2, .slice Ao15 y292.length co15, .slice Ao16 t295.length co16] (by rfl) rfl rfl (by (try simp only [List.map_toArray, List.map_cons, List.map_nil]); first | done | rfl | (simp only [List.length_drop, List.length_take]; rfl)) ?_
      with_reducible refine (proof_RootFromInclusionProof.calls k a0_0 a0_1 a0_2 a0_3 a0_4 a0_5 a1 a2 (fun k_ => some k_ = (.slice Ao15 y292.length co15 : Value).ownBlock) _ _ y292 _ _ t295 t298 none _ ?side1 ?side2 ?side3 A8.out).mono ?_
      (case side1 => exact Kd.R_V (Kd.R_tight rfl (Kd.R_types (Kd.R_apart' (HO294.out) (Kd.S_typed HO297.out) (by decide)) BK288.out (by decide))))
      (case side2 => repeat (first | exact (Kd.S_reads' HO297.out).2.2 | (with_reducible refine Kd.C_alloc ?_ _) | (with_reducible refine Kd.C_drewN ?_ _) | (with_reducible refine Kd.C_drew ?_)))
      (case side3 => exact (Kd.S_reads' HO297.out).2.1)
      rintro e w17 ⟨v299, qe302, rfl, ho0, hb⟩
      refine ⟨_, rfl, ?_⟩
      have n0_ := Aside0.mk (Kd.R_below (by (with_reducible repeat (first | apply Kd.R_alloc | apply Kd.R_drewN | apply Kd.R_drew)); exact HO294.out) hb)
      have n1_ := Aside0.mk (Kd.S_below (by (with_reducible repeat (first | apply Kd.S_alloc | apply Kd.S_drewN | apply Kd.S_drew)); exact HO297.out) hb)
      have n2_ := Aside0.mk (Kd.V_lower (Kd.V_mono (ok' := fun k_ => (w.heap.size ≤ k_) ∧ some k_ ≠ (.slice Ao16 t295.length co16 : Value).ownBlock ∧ k_ ≠ gb288) ho0 (fun k_ hk_ => ⟨Or.elim hk_ (fun hs_ => ((Kd.R_types (Kd.R_apart' (HO294.out) (Kd.S_typed HO297.out) (by decide)) BK288.out (by decide)).1 k_ hs_.symm).1.1) (fun hn_ => (Nat.le_trans (below_size (by repeat (first | (with_reducible first | exact HB.out | apply below_alloc | apply pw_below_drewN | apply below_drew1 | refine below_set ?_ GE288.out) | exact HB.out))) hn_)), Or.elim hk_ (fun hs_ => ((Kd.R_types (Kd.R_apart' (HO294.out) (Kd.S_typed HO297.out) (by decide)) BK288.out (by decide)).1 k_ hs_.symm).1.2) (fun hn_ => (Kd.fresh' (Kd.S_lt (by (with_reducible repeat (first | apply Kd.S_alloc | apply Kd.S_drewN | apply Kd.S_drew)); exact HO297.out)) k_ hn_)), Or.elim hk_ (fun hs_ => ((Kd.R_types (Kd.R_apart' (HO294.out) (Kd.S_typed HO297.out) (by decide)) BK288.out (by decide)).1 k_ hs_.symm).2) (fun hn_ => (Kd.freshB (g := gb288) (o := .cells #[.int .i64 a0_0, .int .i64 a0_1, .int .i64 a0_2, .int .u64 a0_3, .int .u64 a0_4, .int .u64 a0_5] 24 (0, 0)) (by (with_reducible repeat (first | refine blk_drewN ?_ _ | refine blk_drew ?_ | refine blk_alloc ?_ _)); exact BK288.out) k_ hn_))⟩)) (below_size (by repeat (first | (with_reducible first | exact HB.out | apply below_alloc | apply pw_below_drewN | apply below_drew1 | refine below_set ?_ GE288.out) | exact HB.out))))
      have n3_ := Aside0.mk (blk_below (g := gb288) (o := .cells #[.int .i64 a0_0, .int .i64 a0_1, .int .i64 a0_2, .int .u64 a0_3, .int .u64 a0_4, .int .u64 a0_5] 24 (0, 0)) (by (with_reducible repeat (first | refine blk_drewN ?_ _ | refine blk_drew ?_ | refine blk_alloc ?_ _)); exact BK288.out) hb)
      have n4_ := Aside0.mk (below_step (by repeat (first | (with_reducible first | exact HB.out | apply below_alloc | apply pw_below_drewN | apply below_drew1 | refine below_set ?_ GE288.out) | exact HB.out)) hb)
      clear HO294
      clear HO297
      clear BK288
      clear HB
      have HO294 := n0_
      have HO297 := n1_
      have HO300 := n2_
      have BK288 := n3_
      have HB := n4_
      clear n0_ n1_ n2_ n3_ n4_
      (try clear hb)
      (try clear hb2)
      (try clear hk)
      (try clear hi)
      (try clear ho0)
      (try simp only [errW_none, errW_some])
      refine hK.out _ _ ⟨(blk_cell BK288.out 0).trans rfl, (blk_cell BK288.out 1).trans rfl, (blk_cell BK288.out 2).trans rfl, (blk_cell BK288.out 3).trans rfl, (blk_cell BK288.out 4).trans rfl, (blk_cell BK288.out 5).trans rfl⟩ (fun hHeld => ?_)
      clear hK K
      refine norm_ (a' := ?_) ?_ ?_
      rotate_left
      · show Act.put _ (some 25) _ = _
        simp only [Act.put, List.setIfInBounds_toArray, List.set_cons_zero, List.set_cons_succ, i64_w, i32_w]
        rfl
      refine pure_ (i := 11) (N := some 14) (v := ?_) (a' := ?_) #[true, true, true, true, true, true, true, true, true, true, true, true, false, false, false, false] rfl rfl (any_of HT_.out (by kernel_rfl)) (fun _ _ _ h => h) (Or.inl ⟨by rfl, ?_⟩) ?_ ?_
      rotate_left
      · intro w'
        go_simp
        with_reducible rfl
      rotate_left
      · simp only [Act.put, List.setIfInBounds_toArray, List.set_cons_zero, List.set_cons_succ, i64_w, i32_w]
        rfl
      refine pure_ (i := 12) (N := some 26) (v := ?_) (a' := ?_) #[true, true, true, true, true, true, true, true, true, true, true, true, true, false, false, false] rfl rfl (any_of HT_.out (by kernel_rfl)) (fun _ _ _ h => h) (Or.inl ⟨by rfl, ?_⟩) ?_ ?_
      rotate_left
      · intro w'
        go_simp
        with_reducible rfl
      rotate_left
      · simp only [Act.put, List.setIfInBounds_toArray, List.set_cons_zero, List.set_cons_succ, i64_w, i32_w]
        rfl
      refine pure_ (i := 13) (N := some 27) (v := ?_) (a' := ?_) #[true, true, true, true, true, true, true, true, true, true, true, true, true, true, false, false] rfl rfl (any_of HT_.out (by kernel_rfl)) (fun _ _ _ h => h) (Or.inl ⟨by rfl, ?_⟩) ?_ ?_
      rotate_left
      · intro w'
        go_simp
        with_reducible rfl
      rotate_left
      · simp only [Act.put, List.setIfInBounds_toArray, List.set_cons_zero, List.set_cons_succ, i64_w, i32_w]
        rfl
      refine pure_ (i := 14) (N := some 12) (v := ?_) (a' := ?_) #[true, true, true, true, true, true, true, true, true, true, true, true, true, true, true, false] rfl rfl (any_of HT_.out (by kernel_rfl)) (fun _ _ _ h => h) (Or.inl ⟨by rfl, ?_⟩) ?_ ?_
      rotate_left
      · intro w'
        go_simp
        with_reducible rfl
      rotate_left
      · simp only [Act.put, List.setIfInBounds_toArray, List.set_cons_zero, List.set_cons_succ, i64_w, i32_w]
        rfl
      refine pure_ (i := 15) (N := some 13) (v := ?_) (a' := ?_) #[true, true, true, true, true, true, true, true, true, true, true, true, true, true, true, true] rfl rfl (any_of HT_.out (by kernel_rfl)) (fun _ _ _ h => h) (Or.inl ⟨by rfl, ?_⟩) ?_ ?_
      rotate_left
      · intro w'
        go_simp
        with_reducible rfl
      rotate_left
      · simp only [Act.put, List.setIfInBounds_toArray, List.set_cons_zero, List.set_cons_succ, i64_w, i32_w]
        rfl
      refine done_ (done_of HT_.out (by kernel_rfl)) ?_
      try go_wp2
      have n0_ := Aside0.mk (Kd.R_drew HO294.out)
      have n1_ := Aside0.mk (Kd.S_drew HO297.out)
      have n2_ := Aside0.mk (Kd.V_drew HO300.out)
      have n3_ := Aside0.mk (blk_drew BK288.out)
      have n4_ := Aside0.mk (below_drew1 HB.out)
      clear HO294
      clear HO297
      clear HO300
      clear BK288
      clear HB
      have HO294 := n0_
      have HO297 := n1_
      have HO300 := n2_
      have BK288 := n3_
      have HB := n4_
      clear n0_ n1_ n2_ n3_ n4_
      refine start_ (n := 5) (S := fun w' => True) (ds := []) #[false, false, false, false, false] (by kernel_rfl) rfl rfl trivial (fun hHeld => ?_)
      generalize w17.drew = w18 at HO294 HO297 HO300 BK288 HB hHeld ⊢
      refine pure_ (i := 0) (N := some 28) (v := ?_) (a' := ?_) #[true, false, false, false, false] rfl rfl (by kernel_rfl) (fun _ _ _ h => h) (Or.inl ⟨by rfl, ?_⟩) ?_ ?_
      rotate_left
      · intro w'
        go_simp
        with_reducible rfl
      rotate_left
      · simp only [Act.put, List.setIfInBounds_toArray, List.set_cons_zero, List.set_cons_succ, i64_w, i32_w]
        rfl
      refine pure_ (i := 1) (N := some 29) (v := ?_) (a' := ?_) #[true, true, false, false, false] rfl rfl (by kernel_rfl) (fun _ _ _ h => h) (Or.inl ⟨by rfl, ?_⟩) ?_ ?_
      rotate_left
      · intro w'
        go_simp
        with_reducible rfl
      rotate_left
      · simp only [Act.put, List.setIfInBounds_toArray, List.set_cons_zero, List.set_cons_succ, i64_w, i32_w]
        rfl
      refine pure_ (i := 2) (N := some 30) (v := ?_) (a' := ?_) #[true, true, true, false, false] rfl rfl (by kernel_rfl) (fun _ _ _ h => h) (Or.inl ⟨by rfl, ?_⟩) ?_ ?_
      rotate_left
      · intro w'
        go_simp
        with_reducible rfl
      rotate_left
      · simp only [Act.put, List.setIfInBounds_toArray, List.set_cons_zero, List.set_cons_succ, i64_w, i32_w]
        rfl
      refine pure_ (i := 3) (N := some 10) (v := ?_) (a' := ?_) #[true, true, true, true, false] rfl rfl (by kernel_rfl) (fun _ _ _ h => h) (Or.inl ⟨by rfl, ?_⟩) ?_ ?_
      rotate_left
      · intro w'
        go_simp
        with_reducible rfl
      rotate_left
      · simp only [Act.put, List.setIfInBounds_toArray, List.set_cons_zero, List.set_cons_succ, i64_w, i32_w]
        rfl
      refine pure_ (i := 4) (N := some 11) (v := ?_) (a' := ?_) #[true, true, true, true, true] rfl rfl (by kernel_rfl) (fun _ _ _ h => h) (Or.inl ⟨by rfl, ?_⟩) ?_ ?_
      rotate_left
      · intro w'
        go_simp
        with_reducible rfl
      rotate_left
      · simp only [Act.put, List.setIfInBounds_toArray, List.set_cons_zero, List.set_cons_succ, i64_w, i32_w]
        rfl
      refine done_ (by kernel_rfl) ?_
      try go_wp2
      go_ret2
      exact ⟨_, by first | rfl | (simp [errW_none, errW_some] <;> rfl) | (simp [*, errW_none, errW_some] <;> rfl), by (with_reducible repeat (first | apply Kd.V_alloc | apply Kd.V_drewN | apply Kd.V_drew)); exact Kd.V_mono HO300.out (fun _ hk => hk.1), by repeat (first | (with_reducible first | exact HB.out | apply below_alloc | apply pw_below_drewN | apply below_drew1 | refine below_set ?_ GE288.out) | exact HB.out)⟩
    · have H1 : (some (t298, false)) = some (r1, r2) := by rw [if_neg (show ¬ (some q303).isNone = true by simp)] at H; exact H
      clear H
      have H := H1
      clear H1
      try simp only [errW_none, errW_some]
      simp only [Option.some.injEq, Prod.mk.injEq] at H
      obtain ⟨rfl, rfl⟩ := H
      go_enter Try.func11, Try.ntmps11
      try go_wp2_with (first | ((with_reducible refine gate_dst (N := 5) rfl ?_); refine box_event ?hg (N := 5) ?hd (cs := #[.int .i64 a0_0, .int .i64 a0_1, .int .i64 a0_2, .int .u64 a0_3, .int .u64 a0_4, .int .u64 a0_5]) (t := 24) ?hr ?_; (case hd => rfl); (case hg => rfl); (case hr => first | (go_simp; done) | (go_simp; rfl)); intro gb288 hg w19 hbox hb; have n0_ := Aside0.mk (below_step (by repeat (first | (with_reducible first | exact HB.out | apply below_alloc | apply pw_below_drewN | apply below_drew1) | exact HB.out)) hb); have n1_ := Aside0.mk (hbox); have n2_ := Aside0.mk ((by rw [hg]; exact (below_size (by repeat (first | (with_reducible first | exact HB.out | apply below_alloc | apply pw_below_drewN | apply below_drew1) | exact HB.out))) : w.heap.size ≤ gb288)); have n3_ := Aside0.mk ((by rw [hg]; exact (below_size (by repeat (first | (with_reducible first | exact HB.out | apply below_alloc | apply pw_below_drewN | apply below_drew1) | exact HB.out))) : w.heap.size ≤ gb288)); clear HB; have HB := n0_; have BK288 := n1_; have GW288 := n2_; have GE288 := n3_; clear n0_ n1_ n2_ n3_; clear hb hbox hg))
      have n0_ := Aside0.mk (blk_drew BK288.out)
      have n1_ := Aside0.mk (below_drew1 HB.out)
      clear BK288
      clear HB
      have BK288 := n0_
      have HB := n1_
      clear n0_ n1_
      refine start_ (n := 16) (S := fun w' => w'.cell? ⟨gb288, 0, none⟩ = some (.int .i64 a0_0) ∧ w'.cell? ⟨gb288, 1, none⟩ = some (.int .i64 a0_1) ∧ w'.cell? ⟨gb288, 2, none⟩ = some (.int .i64 a0_2) ∧ w'.cell? ⟨gb288, 3, none⟩ = some (.int .u64 a0_3) ∧ w'.cell? ⟨gb288, 4, none⟩ = some (.int .u64 a0_4) ∧ w'.cell? ⟨gb288, 5, none⟩ = some (.int .u64 a0_5)) (ds := []) #[false, false, false, false, false, false, false, false, false, false, false, false, false, false, false, false] (by kernel_rfl) rfl rfl ⟨(blk_cell BK288.out 0).trans rfl, (blk_cell BK288.out 1).trans rfl, (blk_cell BK288.out 2).trans rfl, (blk_cell BK288.out 3).trans rfl, (blk_cell BK288.out 4).trans rfl, (blk_cell BK288.out 5).trans rfl⟩ (fun hHeld => ?_); refine with_tabW impl_RootOfInclusion.tab1 impl_RootOfInclusion.bits1 (fun HT_ HW_ => ?_)
      generalize w19.drew = w20 at BK288 HB hHeld ⊢
      refine pure_ (i := 3) (N := some 18) (v := ?_) (a' := ?_) #[false, false, false, true, false, false, false, false, false, false, false, false, false, false, false, false] rfl rfl (any_of HT_.out (by kernel_rfl)) (fun _ _ _ h => h) (Or.inl ⟨by rfl, ?_⟩) ?_ ?_
      rotate_left
      · intro w'
        go_simp
        with_reducible rfl
      rotate_left
      · simp only [Act.put, List.setIfInBounds_toArray, List.set_cons_zero, List.set_cons_succ, i64_w, i32_w]
        rfl
      refine pure_ (i := 4) (N := some 19) (v := ?_) (a' := ?_) #[false, false, false, true, true, false, false, false, false, false, false, false, false, false, false, false] rfl rfl (any_of HT_.out (by kernel_rfl)) (fun _ _ _ h => h) (Or.inl ⟨by rfl, ?_⟩) ?_ ?_
      rotate_left
      · intro w'
        go_simp
        with_reducible rfl
      rotate_left
      · simp only [Act.put, List.setIfInBounds_toArray, List.set_cons_zero, List.set_cons_succ, i64_w, i32_w]
        rfl
      refine pure_ (i := 6) (N := some 21) (v := ?_) (a' := ?_) #[false, false, false, true, true, false, true, false, false, false, false, false, false, false, false, false] rfl rfl (any_of HT_.out (by kernel_rfl)) (fun _ _ _ h => h) (Or.inl ⟨by rfl, ?_⟩) ?_ ?_
      rotate_left
      · intro w'
        go_simp
        with_reducible rfl
      rotate_left
      · simp only [Act.put, List.setIfInBounds_toArray, List.set_cons_zero, List.set_cons_succ, i64_w, i32_w]
        rfl
      refine pure_ (i := 8) (N := some 23) (v := ?_) (a' := ?_) #[false, false, false, true, true, false, true, false, true, false, false, false, false, false, false, false] rfl rfl (any_of HT_.out (by kernel_rfl)) (fun _ _ _ h => h) (Or.inl ⟨by rfl, ?_⟩) ?_ ?_
      rotate_left
      · intro w'
        go_simp
        with_reducible rfl
      rotate_left
      · simp only [Act.put, List.setIfInBounds_toArray, List.set_cons_zero, List.set_cons_succ, i64_w, i32_w]
        rfl
      refine take_ (i := 0) (N := some 15) (v := ?_) (a' := ?_) #[true, false, false, true, true, false, true, false, true, false, false, false, false, false, false, false] rfl rfl (take_ofW HT_.out HW_.out (by kernel_rfl)) (fun _ _ _ h => h) (Or.inl ⟨by rfl, ?_⟩) hHeld ?_ ?_
      rotate_left
      · rintro w' ⟨s0, s1, s2, s3, s4, s5⟩
        go_simp
        with_reducible rfl
      rotate_left
      · simp only [Act.put, List.setIfInBounds_toArray, List.set_cons_zero, List.set_cons_succ, i64_w, i32_w]
        rfl
      refine pure_ (i := 1) (N := some 16) (v := ?_) (a' := ?_) #[true, true, false, true, true, false, true, false, true, false, false, false, false, false, false, false] rfl rfl (any_of HT_.out (by kernel_rfl)) (fun _ _ _ h => h) (Or.inl ⟨by rfl, ?_⟩) ?_ ?_
      rotate_left
      · intro w'
        go_simp
        with_reducible rfl
      rotate_left
      · simp only [Act.put, List.setIfInBounds_toArray, List.set_cons_zero, List.set_cons_succ, i64_w, i32_w]
        rfl
      refine pure_ (i := 2) (N := some 17) (v := ?_) (a' := ?_) #[true, true, true, true, true, false, true, false, true, false, false, false, false, false, false, false] rfl rfl (any_of HT_.out (by kernel_rfl)) (fun _ _ _ h => h) (Or.inl ⟨by rfl, ?_⟩) ?_ ?_
      rotate_left
      · intro w'
        go_simp
        with_reducible rfl
      rotate_left
      · simp only [Act.put, List.setIfInBounds_toArray, List.set_cons_zero, List.set_cons_succ, i64_w, i32_w]
        rfl
      refine one_ (i := 5) (N := some 20) #[true, true, true, true, true, true, true, false, true, false, false, false, false, false, false, false] rfl rfl (one_of HT_.out (by kernel_rfl)) (by decide) (fun K hK => ?_)
      refine Kd.R_lit_step (Kd.int .u8) _ 5 ?hg (N := 20) ?hd (xs := ([] : List Int)) (inner := []) (ok := fun _ => True) (okp := fun _ => True) ?hr ?hp (fun _ hk => hk) trivial (Below.refl _ _) (Nat.le_refl _) (by simp) ?_; (case hd => rfl); (case hg => rfl); (case hr => first | (go_simp; done) | (go_simp; rfl)); (case hp => exact (Reps.none _ _))
      intro v290 w21 ho22 hb hg_ hnew_
      clear hg_ hnew_
      (first | rw [← Ny289.out] at ho22 | (simp only [Int.reduceToNat] at ho22; rw [← Ny289.out] at ho22))
      have n0_ := Aside0.mk (Kd.R_lower (Kd.R_newM (M := fun k_ => (w.heap.size ≤ k_)) ho22 (below_size (by repeat (first | (with_reducible first | exact HB.out | apply below_alloc | apply pw_below_drewN | apply below_drew1 | refine below_set ?_ GE288.out) | exact HB.out))) (fun k_ h_ => h_)) (below_size (by repeat (first | (with_reducible first | exact HB.out | apply below_alloc | apply pw_below_drewN | apply below_drew1 | refine below_set ?_ GE288.out) | exact HB.out))))
      have n1_ := Aside0.mk (blk_below (g := gb288) (o := .cells #[.int .i64 a0_0, .int .i64 a0_1, .int .i64 a0_2, .int .u64 a0_3, .int .u64 a0_4, .int .u64 a0_5] 24 (0, 0)) (by (with_reducible repeat (first | refine blk_drewN ?_ _ | refine blk_drew ?_ | refine blk_alloc ?_ _)); exact BK288.out) hb)
      have n2_ := Aside0.mk (below_step (by repeat (first | (with_reducible first | exact HB.out | apply below_alloc | apply pw_below_drewN | apply below_drew1 | refine below_set ?_ GE288.out) | exact HB.out)) hb)
      clear BK288
      clear HB
      have HO291 := n0_
      have BK288 := n1_
      have HB := n2_
      clear n0_ n1_ n2_
      clear hb ho22
      refine hK.out _ _ ⟨(blk_cell BK288.out 0).trans rfl, (blk_cell BK288.out 1).trans rfl, (blk_cell BK288.out 2).trans rfl, (blk_cell BK288.out 3).trans rfl, (blk_cell BK288.out 4).trans rfl, (blk_cell BK288.out 5).trans rfl⟩ (fun hHeld => ?_)
      clear hK K
      refine norm_ (a' := ?_) ?_ ?_
      rotate_left
      · show Act.put _ (some 20) _ = _
        simp only [Act.put, List.setIfInBounds_toArray, List.set_cons_zero, List.set_cons_succ, i64_w, i32_w]
        rfl
      refine one_ (i := 7) (N := some 22) #[true, true, true, true, true, true, true, true, true, false, false, false, false, false, false, false] rfl rfl (one_of HT_.out (by kernel_rfl)) (by decide) (fun K hK => ?_)
      refine Kd.R_append_rows_step (Kd.int .u8) (w0 := w) w.heap.size (by rfl) (.tmp 20) (.tmp 21) 25 5 (.int .u8 0) 1 rfl Try.underlying25 info5 rfl (by decide) (by omega) v290 y289 l3 _ _ _ (fun k_ => (w.heap.size ≤ k_)) (fun _ => False) rfl rfl ?aO ?aR (fun _ _ h => h) (fun _ h => h.elim) ?aF ?aB ?aS ?aL ?_
      (case aR => repeat (first | exact (Kd.C_below HR3.out HB.out) | (with_reducible refine Kd.C_alloc ?_ _) | (with_reducible refine Kd.C_drewN ?_ _) | (with_reducible refine Kd.C_drew ?_)))
      (case aB => exact (by repeat (first | (with_reducible first | exact HB.out | apply below_alloc | apply pw_below_drewN | apply below_drew1 | refine below_set ?_ GE288.out) | exact HB.out)))
      (case aF => exact (fun k_ hk => (Nat.le_trans (below_size (by repeat (first | (with_reducible first | exact HB.out | apply below_alloc | apply pw_below_drewN | apply below_drew1 | refine below_set ?_ GE288.out) | exact HB.out))) hk)))
      (case aO => exact (by (with_reducible repeat (first | apply Kd.R_alloc | apply Kd.R_drewN | apply Kd.R_drew)); exact Kd.R_mono HO291.out (fun _ hk => hk.1)))
      (case aS => exact (below_size (by repeat (first | (with_reducible first | exact HB.out | apply below_alloc | apply pw_below_drewN | apply below_drew1 | refine below_set ?_ GE288.out) | exact HB.out))))
      (case aL => have := LMc6.out; omega)
      intro v293 w23 ho hb hg hat
      rw [← Ny292.out] at ho
      have n0_ := Aside0.mk (blk_grown (g := gb288) (o := .cells #[.int .i64 a0_0, .int .i64 a0_1, .int .i64 a0_2, .int .u64 a0_3, .int .u64 a0_4, .int .u64 a0_5] 24 (0, 0)) (by (with_reducible repeat (first | refine blk_drewN ?_ _ | refine blk_drew ?_ | refine blk_alloc ?_ _)); exact BK288.out) hg (Kd.R_ne HO291.out BK288.out (by decide)))
      have n1_ := Aside0.mk (hb)
      have n2_ := Aside0.mk (ho)
      clear BK288
      clear HB
      clear HO291
      have BK288 := n0_
      have HB := n1_
      have HO294 := n2_
      clear n0_ n1_ n2_
      clear ho hb hg hat
      refine hK.out _ _ ⟨(blk_cell BK288.out 0).trans rfl, (blk_cell BK288.out 1).trans rfl, (blk_cell BK288.out 2).trans rfl, (blk_cell BK288.out 3).trans rfl, (blk_cell BK288.out 4).trans rfl, (blk_cell BK288.out 5).trans rfl⟩ (fun hHeld => ?_)
      clear hK K
      refine norm_ (a' := ?_) ?_ ?_
      rotate_left
      · show Act.put _ (some 22) _ = _
        simp only [Act.put, List.setIfInBounds_toArray, List.set_cons_zero, List.set_cons_succ, i64_w, i32_w]
        rfl
      refine one_ (i := 9) (N := some 24) #[true, true, true, true, true, true, true, true, true, true, false, false, false, false, false, false] rfl rfl (one_of HT_.out (by kernel_rfl)) (by decide) (fun K hK => ?_)
      refine goes_ Try.func15 (by kernel_rfl) rfl #[.slice A4 l4.length c4] (by rfl) rfl rfl (by (try simp only [List.map_toArray, List.map_cons, List.map_nil]); first | done | rfl | (simp only [List.length_drop, List.length_take]; rfl)) ?_
      with_reducible refine (impl_texts.calls k _ _ l4 t295 _ ?side1 ?side2 A7.out).mono ?_
      (case side1 => repeat (first | exact (Kd.C_below HR4.out HB.out) | (with_reducible refine Kd.C_alloc ?_ _) | (with_reducible refine Kd.C_drewN ?_ _) | (with_reducible refine Kd.C_drew ?_)))
      (case side2 => exact HC4.out)
      rintro e w24 ⟨v296, rfl, ho0, hb⟩
      refine ⟨_, rfl, ?_⟩
      have n0_ := Aside0.mk (Kd.R_below (by (with_reducible repeat (first | apply Kd.R_alloc | apply Kd.R_drewN | apply Kd.R_drew)); exact HO294.out) hb)
      have n1_ := Aside0.mk (Kd.S_lower (Kd.S_new' (Kd.S_newM (M := fun k_ => (w.heap.size ≤ k_)) ho0 (below_size (by repeat (first | (with_reducible first | exact HB.out | apply below_alloc | apply pw_below_drewN | apply below_drew1 | refine below_set ?_ GE288.out) | exact HB.out))) (fun k_ h_ => h_)) (Kd.R_lt (by (with_reducible repeat (first | apply Kd.R_alloc | apply Kd.R_drewN | apply Kd.R_drew)); exact HO294.out))) (below_size (by repeat (first | (with_reducible first | exact HB.out | apply below_alloc | apply pw_below_drewN | apply below_drew1 | refine below_set ?_ GE288.out) | exact HB.out))))
      have n2_ := Aside0.mk (blk_below (g := gb288) (o := .cells #[.int .i64 a0_0, .int .i64 a0_1, .int .i64 a0_2, .int .u64 a0_3, .int .u64 a0_4, .int .u64 a0_5] 24 (0, 0)) (by (with_reducible repeat (first | refine blk_drewN ?_ _ | refine blk_drew ?_ | refine blk_alloc ?_ _)); exact BK288.out) hb)
      have n3_ := Aside0.mk (below_step (by repeat (first | (with_reducible first | exact HB.out | apply below_alloc | apply pw_below_drewN | apply below_drew1 | refine below_set ?_ GE288.out) | exact HB.out)) hb)
      clear HO294
      clear BK288
      clear HB
      have HO294 := n0_
      have HO297 := n1_
      have BK288 := n2_
      have HB := n3_
      clear n0_ n1_ n2_ n3_
      (try clear hb)
      (try clear hb2)
      (try clear hk)
      (try clear hi)
      (try clear ho0)
      obtain ⟨Ao25, co25, eo25⟩ := Kd.R_slice HO294.out
      (first | subst eo25 | (injection eo25 with f1_ f2_ f3_; have f4_ := f1_.symm; have f5_ := f3_.symm; clear f1_ f2_ f3_; subst f4_; subst f5_))
      obtain ⟨Ao26, co26, eo26⟩ := Kd.S_slice HO297.out
      (first | subst eo26 | (injection eo26 with f1_ f2_ f3_; have f4_ := f1_.symm; have f5_ := f3_.symm; clear f1_ f2_ f3_; subst f4_; subst f5_))
      refine hK.out _ _ ⟨(blk_cell BK288.out 0).trans rfl, (blk_cell BK288.out 1).trans rfl, (blk_cell BK288.out 2).trans rfl, (blk_cell BK288.out 3).trans rfl, (blk_cell BK288.out 4).trans rfl, (blk_cell BK288.out 5).trans rfl⟩ (fun hHeld => ?_)
      clear hK K
      refine norm_ (a' := ?_) ?_ ?_
      rotate_left
      · show Act.put _ (some 24) _ = _
        simp only [Act.put, List.setIfInBounds_toArray, List.set_cons_zero, List.set_cons_succ, i64_w, i32_w]
        rfl
      refine one_ (i := 10) (N := some 25) #[true, true, true, true, true, true, true, true, true, true, true, false, false, false, false, false] rfl rfl (one_of HT_.out (by kernel_rfl)) (by decide) (fun K hK => ?_)
      refine goes_ Try.func18 (by kernel_rfl) rfl #[.iface 40 (.agg #[.int .i64 a0_0, .int .i64 a0_1, .int .i64 a0_2, .int .u64 a0_3, .int .u64 a0_4, .int .u64 a0_5]), .int .u64 a1, .int .u64 a2, .slice Ao25 y292.length co25, .slice Ao26 t295.length co26] (by rfl) rfl rfl (by (try simp only [List.map_toArray, List.map_cons, List.map_nil]); first | done | rfl | (simp only [List.length_drop, List.length_take]; rfl)) ?_
      with_reducible refine (proof_RootFromInclusionProof.calls k a0_0 a0_1 a0_2 a0_3 a0_4 a0_5 a1 a2 (fun k_ => some k_ = (.slice Ao25 y292.length co25 : Value).ownBlock) _ _ y292 _ _ t295 t298 (some q303) _ ?side1 ?side2 ?side3 A8.out).mono ?_
      (case side1 => exact Kd.R_V (Kd.R_tight rfl (Kd.R_types (Kd.R_apart' (HO294.out) (Kd.S_typed HO297.out) (by decide)) BK288.out (by decide))))
      (case side2 => repeat (first | exact (Kd.S_reads' HO297.out).2.2 | (with_reducible refine Kd.C_alloc ?_ _) | (with_reducible refine Kd.C_drewN ?_ _) | (with_reducible refine Kd.C_drew ?_)))
      (case side3 => exact (Kd.S_reads' HO297.out).2.1)
      rintro e w27 ⟨v299, qe302, rfl, ho0, hb⟩
      refine ⟨_, rfl, ?_⟩
      have n0_ := Aside0.mk (Kd.R_below (by (with_reducible repeat (first | apply Kd.R_alloc | apply Kd.R_drewN | apply Kd.R_drew)); exact HO294.out) hb)
      have n1_ := Aside0.mk (Kd.S_below (by (with_reducible repeat (first | apply Kd.S_alloc | apply Kd.S_drewN | apply Kd.S_drew)); exact HO297.out) hb)
      have n2_ := Aside0.mk (Kd.V_lower (Kd.V_mono (ok' := fun k_ => (w.heap.size ≤ k_) ∧ some k_ ≠ (.slice Ao26 t295.length co26 : Value).ownBlock ∧ k_ ≠ gb288) ho0 (fun k_ hk_ => ⟨Or.elim hk_ (fun hs_ => ((Kd.R_types (Kd.R_apart' (HO294.out) (Kd.S_typed HO297.out) (by decide)) BK288.out (by decide)).1 k_ hs_.symm).1.1) (fun hn_ => (Nat.le_trans (below_size (by repeat (first | (with_reducible first | exact HB.out | apply below_alloc | apply pw_below_drewN | apply below_drew1 | refine below_set ?_ GE288.out) | exact HB.out))) hn_)), Or.elim hk_ (fun hs_ => ((Kd.R_types (Kd.R_apart' (HO294.out) (Kd.S_typed HO297.out) (by decide)) BK288.out (by decide)).1 k_ hs_.symm).1.2) (fun hn_ => (Kd.fresh' (Kd.S_lt (by (with_reducible repeat (first | apply Kd.S_alloc | apply Kd.S_drewN | apply Kd.S_drew)); exact HO297.out)) k_ hn_)), Or.elim hk_ (fun hs_ => ((Kd.R_types (Kd.R_apart' (HO294.out) (Kd.S_typed HO297.out) (by decide)) BK288.out (by decide)).1 k_ hs_.symm).2) (fun hn_ => (Kd.freshB (g := gb288) (o := .cells #[.int .i64 a0_0, .int .i64 a0_1, .int .i64 a0_2, .int .u64 a0_3, .int .u64 a0_4, .int .u64 a0_5] 24 (0, 0)) (by (with_reducible repeat (first | refine blk_drewN ?_ _ | refine blk_drew ?_ | refine blk_alloc ?_ _)); exact BK288.out) k_ hn_))⟩)) (below_size (by repeat (first | (with_reducible first | exact HB.out | apply below_alloc | apply pw_below_drewN | apply below_drew1 | refine below_set ?_ GE288.out) | exact HB.out))))
      have n3_ := Aside0.mk (blk_below (g := gb288) (o := .cells #[.int .i64 a0_0, .int .i64 a0_1, .int .i64 a0_2, .int .u64 a0_3, .int .u64 a0_4, .int .u64 a0_5] 24 (0, 0)) (by (with_reducible repeat (first | refine blk_drewN ?_ _ | refine blk_drew ?_ | refine blk_alloc ?_ _)); exact BK288.out) hb)
      have n4_ := Aside0.mk (below_step (by repeat (first | (with_reducible first | exact HB.out | apply below_alloc | apply pw_below_drewN | apply below_drew1 | refine below_set ?_ GE288.out) | exact HB.out)) hb)
      clear HO294
      clear HO297
      clear BK288
      clear HB
      have HO294 := n0_
      have HO297 := n1_
      have HO300 := n2_
      have BK288 := n3_
      have HB := n4_
      clear n0_ n1_ n2_ n3_ n4_
      (try clear hb)
      (try clear hb2)
      (try clear hk)
      (try clear hi)
      (try clear ho0)
      (try simp only [errW_none, errW_some])
      refine hK.out _ _ ⟨(blk_cell BK288.out 0).trans rfl, (blk_cell BK288.out 1).trans rfl, (blk_cell BK288.out 2).trans rfl, (blk_cell BK288.out 3).trans rfl, (blk_cell BK288.out 4).trans rfl, (blk_cell BK288.out 5).trans rfl⟩ (fun hHeld => ?_)
      clear hK K
      refine norm_ (a' := ?_) ?_ ?_
      rotate_left
      · show Act.put _ (some 25) _ = _
        simp only [Act.put, List.setIfInBounds_toArray, List.set_cons_zero, List.set_cons_succ, i64_w, i32_w]
        rfl
      refine pure_ (i := 11) (N := some 14) (v := ?_) (a' := ?_) #[true, true, true, true, true, true, true, true, true, true, true, true, false, false, false, false] rfl rfl (any_of HT_.out (by kernel_rfl)) (fun _ _ _ h => h) (Or.inl ⟨by rfl, ?_⟩) ?_ ?_
      rotate_left
      · intro w'
        go_simp
        with_reducible rfl
      rotate_left
      · simp only [Act.put, List.setIfInBounds_toArray, List.set_cons_zero, List.set_cons_succ, i64_w, i32_w]
        rfl
      refine pure_ (i := 12) (N := some 26) (v := ?_) (a' := ?_) #[true, true, true, true, true, true, true, true, true, true, true, true, true, false, false, false] rfl rfl (any_of HT_.out (by kernel_rfl)) (fun _ _ _ h => h) (Or.inl ⟨by rfl, ?_⟩) ?_ ?_
      rotate_left
      · intro w'
        go_simp
        with_reducible rfl
      rotate_left
      · simp only [Act.put, List.setIfInBounds_toArray, List.set_cons_zero, List.set_cons_succ, i64_w, i32_w]
        rfl
      refine pure_ (i := 13) (N := some 27) (v := ?_) (a' := ?_) #[true, true, true, true, true, true, true, true, true, true, true, true, true, true, false, false] rfl rfl (any_of HT_.out (by kernel_rfl)) (fun _ _ _ h => h) (Or.inl ⟨by rfl, ?_⟩) ?_ ?_
      rotate_left
      · intro w'
        go_simp
        with_reducible rfl
      rotate_left
      · simp only [Act.put, List.setIfInBounds_toArray, List.set_cons_zero, List.set_cons_succ, i64_w, i32_w]
        rfl
      refine pure_ (i := 14) (N := some 12) (v := ?_) (a' := ?_) #[true, true, true, true, true, true, true, true, true, true, true, true, true, true, true, false] rfl rfl (any_of HT_.out (by kernel_rfl)) (fun _ _ _ h => h) (Or.inl ⟨by rfl, ?_⟩) ?_ ?_
      rotate_left
      · intro w'
        go_simp
        with_reducible rfl
      rotate_left
      · simp only [Act.put, List.setIfInBounds_toArray, List.set_cons_zero, List.set_cons_succ, i64_w, i32_w]
        rfl
      refine pure_ (i := 15) (N := some 13) (v := ?_) (a' := ?_) #[true, true, true, true, true, true, true, true, true, true, true, true, true, true, true, true] rfl rfl (any_of HT_.out (by kernel_rfl)) (fun _ _ _ h => h) (Or.inl ⟨by rfl, ?_⟩) ?_ ?_
      rotate_left
      · intro w'
        go_simp
        with_reducible rfl
      rotate_left
      · simp only [Act.put, List.setIfInBounds_toArray, List.set_cons_zero, List.set_cons_succ, i64_w, i32_w]
        rfl
      refine done_ (done_of HT_.out (by kernel_rfl)) ?_
      try go_wp2
      have n0_ := Aside0.mk (Kd.R_drew HO294.out)
      have n1_ := Aside0.mk (Kd.S_drew HO297.out)
      have n2_ := Aside0.mk (Kd.V_drew HO300.out)
      have n3_ := Aside0.mk (blk_drew BK288.out)
      have n4_ := Aside0.mk (below_drew1 HB.out)
      clear HO294
      clear HO297
      clear HO300
      clear BK288
      clear HB
      have HO294 := n0_
      have HO297 := n1_
      have HO300 := n2_
      have BK288 := n3_
      have HB := n4_
      clear n0_ n1_ n2_ n3_ n4_
      refine start_ (n := 5) (S := fun w' => True) (ds := []) #[false, false, false, false, false] (by kernel_rfl) rfl rfl trivial (fun hHeld => ?_)
      generalize w27.drew = w28 at HO294 HO297 HO300 BK288 HB hHeld ⊢
      refine pure_ (i := 0) (N := some 28) (v := ?_) (a' := ?_) #[true, false, false, false, false] rfl rfl (by kernel_rfl) (fun _ _ _ h => h) (Or.inl ⟨by rfl, ?_⟩) ?_ ?_
      rotate_left
      · intro w'
        go_simp
        with_reducible rfl
      rotate_left
      · simp only [Act.put, List.setIfInBounds_toArray, List.set_cons_zero, List.set_cons_succ, i64_w, i32_w]
        rfl
      refine pure_ (i := 1) (N := some 29) (v := ?_) (a' := ?_) #[true, true, false, false, false] rfl rfl (by kernel_rfl) (fun _ _ _ h => h) (Or.inl ⟨by rfl, ?_⟩) ?_ ?_
      rotate_left
      · intro w'
        go_simp
        with_reducible rfl
      rotate_left
      · simp only [Act.put, List.setIfInBounds_toArray, List.set_cons_zero, List.set_cons_succ, i64_w, i32_w]
        rfl
      refine pure_ (i := 2) (N := some 30) (v := ?_) (a' := ?_) #[true, true, true, false, false] rfl rfl (by kernel_rfl) (fun _ _ _ h => h) (Or.inl ⟨by rfl, ?_⟩) ?_ ?_
      rotate_left
      · intro w'
        go_simp
        with_reducible rfl
      rotate_left
      · simp only [Act.put, List.setIfInBounds_toArray, List.set_cons_zero, List.set_cons_succ, i64_w, i32_w]
        rfl
      refine pure_ (i := 3) (N := some 10) (v := ?_) (a' := ?_) #[true, true, true, true, false] rfl rfl (by kernel_rfl) (fun _ _ _ h => h) (Or.inl ⟨by rfl, ?_⟩) ?_ ?_
      rotate_left
      · intro w'
        go_simp
        with_reducible rfl
      rotate_left
      · simp only [Act.put, List.setIfInBounds_toArray, List.set_cons_zero, List.set_cons_succ, i64_w, i32_w]
        rfl
      refine pure_ (i := 4) (N := some 11) (v := ?_) (a' := ?_) #[true, true, true, true, true] rfl rfl (by kernel_rfl) (fun _ _ _ h => h) (Or.inl ⟨by rfl, ?_⟩) ?_ ?_
      rotate_left
      · intro w'
        go_simp
        with_reducible rfl
      rotate_left
      · simp only [Act.put, List.setIfInBounds_toArray, List.set_cons_zero, List.set_cons_succ, i64_w, i32_w]
        rfl
      refine done_ (by kernel_rfl) ?_
      try go_wp2
      go_ret2
      exact ⟨_, by first | rfl | (simp [errW_none, errW_some] <;> rfl) | (simp [*, errW_none, errW_some] <;> rfl), by (with_reducible repeat (first | apply Kd.V_alloc | apply Kd.V_drewN | apply Kd.V_drew)); exact Kd.V_mono HO300.out (fun _ hk => hk.1), by repeat (first | (with_reducible first | exact HB.out | apply below_alloc | apply pw_below_drewN | apply below_drew1 | refine below_set ?_ GE288.out) | exact HB.out)⟩
  · rw [if_neg c6] at H
    exact absurd H (by simp)

/-! ### spec_split: function 26 -/
def spec_split.l0 : Nat → Int → Int → Option (Int)
  | 0, _, _ => none
  | k + 1, x0, x3 => if x3 < (IntKind.u64.wrap (x0 - x3)) then (spec_split.l0 k x0 (IntKind.u64.wrap (x3 * 2))) else (some x3)
def spec_split.f (k : Nat) (a0 : Int) : Option (Int) := spec_split.l0 k a0 1
theorem spec_split.mono_l : ∀ k, (∀ y0 y1, LeO (spec_split.l0 k y0 y1) (spec_split.l0 (k + 1) y0 y1))
  | 0 => fun _ _ r h => by simp [spec_split.l0] at h
  | k + 1 => by
    have ih0 := spec_split.mono_l k
    · intro y0 y1
      unfold spec_split.l0
      repeat' first
      | (with_reducible exact ih0 _ _)
      | (with_reducible exact LeO.refl _)
      | (with_reducible exact LeO.none _)
      | (with_reducible refine LeO.ite ?_ ?_)
      | (with_reducible refine LeO.bind ?_ (fun _ => ?_))
      | exact ih0 _ _
      | exact LeO.none _
      | refine LeO.ite ?_ ?_
      | refine LeO.bind ?_ (fun _ => ?_)
theorem spec_split.mono : ∀ a0 k, LeO (spec_split.f k a0) (spec_split.f (k + 1) a0) := by
  intro a0 k
  have ih0 := spec_split.mono_l k
  unfold spec_split.f
  repeat' first
      | (with_reducible exact ih0 _ _)
      | (with_reducible exact LeO.refl _)
      | (with_reducible exact LeO.none _)
      | (with_reducible refine LeO.ite ?_ ?_)
      | (with_reducible refine LeO.bind ?_ (fun _ => ?_))
      | exact ih0 _ _
      | exact LeO.none _
      | refine LeO.ite ?_ ?_
      | refine LeO.bind ?_ (fun _ => ?_)
set_option maxHeartbeats 8000000 in
set_option maxRecDepth 100000 in
theorem spec_split.calls (k : Nat) (a0 : Int) (r : Int) (w : World) (h : spec_split.f k a0 = some r) :
    Calls Try.prog 26 #[.int .u64 a0] w fun e w' => e = .returned (.int .u64 r) ∧ Drawn0 w w' := by
  have H : (spec_split.l0 k a0 1) = some r := h
  clear h
  have H' := Aside0.mk H
  clear H
  go_enter Try.func26, Try.ntmps26
  go_wp2
  try simp only [Act.put, List.setIfInBounds_toArray, List.set_cons_zero, List.set_cons_succ]
  go_loopg [3] k (fun kq v3 w' => ∃ (x3_1 : Int), v3 = .int .u64 x3_1 ∧ Aside0 (spec_split.l0 kq a0 x3_1 = some r) ∧ Aside0 (kq ≤ k) ∧ Drawn0 w w')
  case atStart => exact ⟨(1), (by first | rfl | (simp; done) | (simp [*]; done)), H', ⟨Nat.le_refl _⟩, by repeat (first | exact Drawn0.refl _ | apply Drawn0.step)⟩
  case round =>
    clear H'
    obtain ⟨x3_1, rfl, HA, HK1, ⟨m1, rfl⟩⟩ := hrel
    cases gk with
    | zero => exact absurd HA.out (by simp [spec_split.l0])
    | succ k1 =>
      have H := HA.out
      clear HA
      simp only [spec_split.l0] at H
      by_cases c2 : x3_1 < (IntKind.u64.wrap (a0 - x3_1))
      · rw [if_pos c2] at H
        have c2b0 : decide (x3_1 < (IntKind.u64.wrap (a0 - x3_1))) = true := decide_eq_true c2
        clear c2
        have H' := Aside0.mk H
        clear H
        go_wp2
        go_roundg k1
        case measure => have := HK1.out; omega
        case rel => exact ⟨(IntKind.u64.wrap (x3_1 * 2)), (by first | rfl | (simp; done) | (simp [*]; done)), H', ⟨by have := HK1.out; omega⟩, by repeat (first | exact Drawn0.refl _ | apply Drawn0.step)⟩
      · rw [if_neg c2] at H
        have c2b0 : decide (x3_1 < (IntKind.u64.wrap (a0 - x3_1))) = false := decide_eq_false c2
        clear c2
        obtain rfl := Option.some.inj H
        go_wp2
        go_ret
        exact ⟨by first | rfl | (simp; done) | (simp [*]; done), by repeat (first | exact Drawn0.refl _ | apply Drawn0.step)⟩

end Go.Proofs.Ytijldedhcjkhiaa.X
