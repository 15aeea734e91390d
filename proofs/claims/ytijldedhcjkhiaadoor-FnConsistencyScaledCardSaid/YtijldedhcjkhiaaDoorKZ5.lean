import Derived.Test.YtijldedhcjkhiaaDoorKZ0
import Derived.Test.YtijldedhcjkhiaaDoorKZ2
import Derived.Test.YtijldedhcjkhiaaDoorKZ4
namespace Go.Proofs.YtijldedhcjkhiaaDoor.Z
open Go.RowKit Go.Proofs.YtijldedhcjkhiaaDoorW.PrintWords Go.Proofs.YtijldedhcjkhiaaDoorW.PrintLast Go.Proofs.YtijldedhcjkhiaaDoorW.PrintMore
attribute [local go_sem] max2_int min2_int max_two min_two max_three min_three max_four min_four   -- for this text's walks alone
set_option linter.unusedVariables false
set_option linter.unusedSimpArgs false
def impl_VerifyConsistency.f (k : Nat) (a0_0 : Int) (a0_1 : Int) (a0_2 : Int) (a0_3 : Int) (a0_4 : Int) (a0_5 : Int) (a1 : Int) (a2 : Int) (l3 : List (List Int)) (l4 : List Int) (l5 : List Int) : Option (Int × List Int) := (impl_texts.f k l3).bind fun t340 => ((some (([] : List Int) : List Int)).bind fun y343 => (if y343.length + l4.length < 140737488355328 then ((some (([] : List Int) : List Int)).bind fun y349 => (if y349.length + l5.length < 140737488355328 then ((proof_VerifyConsistency.f k a0_0 a0_1 a0_2 a0_3 a0_4 a0_5 a1 a2 t340 (y343 ++ l4) (y349 ++ l5)).bind fun bt355 => ((impl_verdict.f bt355.1 bt355.2.1 bt355.2.2).bind fun bt363 => (some (bt363.1, bt363.2)))) else (none))) else (none)))
theorem impl_VerifyConsistency.mono : ∀ a0 a1 a2 a3 a4 a5 a6 a7 a8 a9 a10 k, LeO (impl_VerifyConsistency.f k a0 a1 a2 a3 a4 a5 a6 a7 a8 a9 a10) (impl_VerifyConsistency.f (k + 1) a0 a1 a2 a3 a4 a5 a6 a7 a8 a9 a10) := by
 intro a0 a1 a2 a3 a4 a5 a6 a7 a8 a9 a10 k
 unfold impl_VerifyConsistency.f
 repeat' first
   | (with_reducible exact impl_texts.mono _ _)
   | (with_reducible exact proof_VerifyConsistency.mono _ _ _ _ _ _ _ _ _ _ _ _)
   | (with_reducible exact LeO.refl _)
   | (with_reducible exact LeO.none _)
   | (with_reducible refine LeO.ite ?_ ?_)
   | (with_reducible refine LeO.bind ?_ (fun _ => ?_))
   | exact impl_texts.mono _ _
   | exact proof_VerifyConsistency.mono _ _ _ _ _ _ _ _ _ _ _ _
   | exact LeO.none _
   | refine LeO.ite ?_ ?_
   | refine LeO.bind ?_ (fun _ => ?_)
def impl_VerifyConsistency.T1 : Bool × List (List Nat × List Nat) := (true, [([], []), ([0], [0]), ([1], [1]), ([], []), ([], []), ([], []), ([5], [5]), ([], []), ([], []), ([7, 8, 6], [7, 8]), ([], []), ([], []), ([10, 11, 9], [10, 11]), ([2, 3, 4, 6, 9, 12, 12], [2, 3, 4, 6, 9, 12]), ([13, 13], [13]), ([14], [14]), ([14], [14]), ([15, 14, 0, 1, 2, 3, 4, 5, 6, 7, 8, 9, 10, 11, 12, 13, 14, 15, 16], [15]), ([16, 17, 0, 1, 2, 3, 4, 5, 6, 7, 8, 9, 10, 11, 12, 13, 14, 15, 16, 17], [16])])
def impl_VerifyConsistency.B1 : List Nat := [0, 1, 3, 0, 0, 0, 32, 0, 0, 480, 0, 0, 4064, 8191, 16383, 32767, 32767, 131071, 262143]
theorem impl_VerifyConsistency.tab1 : rtab .any (opsOf Tryd.f33 1) = impl_VerifyConsistency.T1 := by kernel_rfl
theorem impl_VerifyConsistency.bits1 : waitsOk impl_VerifyConsistency.T1.2 impl_VerifyConsistency.B1 = true := by kernel_rfl
set_option maxHeartbeats 8000000 in
set_option maxRecDepth 100000 in
theorem impl_VerifyConsistency.calls (k : Nat) (a0_0 : Int) (a0_1 : Int) (a0_2 : Int) (a0_3 : Int) (a0_4 : Int) (a0_5 : Int) (a1 : Int) (a2 : Int) (A3 : Option Addr) (c3 : Nat) (l3 : List (List Int)) (A4 : Option Addr) (c4 : Nat) (l4 : List Int) (A5 : Option Addr) (c5 : Nat) (l5 : List Int) (r1 : Int) (r2 : List Int) (w : World) (hGT : GlobT w) (hr3 : Kd.C (Kd.slice 5 (Kd.int .u8)) w A3 l3.length l3) (hc3 : l3.length ≤ c3) (hr4 : Kd.C (Kd.int .u8) w A4 l4.length l4) (hc4 : l4.length ≤ c4) (hr5 : Kd.C (Kd.int .u8) w A5 l5.length l5) (hc5 : l5.length ≤ c5) (h : impl_VerifyConsistency.f k a0_0 a0_1 a0_2 a0_3 a0_4 a0_5 a1 a2 l3 l4 l5 = some (r1, r2)) :
  Calls Tryd.prog 33 #[.agg #[.int .i64 a0_0, .int .i64 a0_1, .int .i64 a0_2, .int .u64 a0_3, .int .u64 a0_4, .int .u64 a0_5], .int .u64 a1, .int .u64 a2, .slice A3 l3.length c3, .slice A4 l4.length c4, .slice A5 l5.length c5] w fun e w' => ∃ v1_ : Value, e = .returned (.tuple #[.int .i64 r1, v1_]) ∧ Kd.R (Kd.int .u8) 5 w' w.heap.size (fun _ => True) v1_ r2 ∧ Below w.heap.size w w' := by
 have hu37 := Tryd.underlying37
 have hu114 := Tryd.underlying114
 have HR3 := Aside0.mk hr3
 have HC3 := Aside0.mk hc3
 clear hr3 hc3
 have HR4 := Aside0.mk hr4
 have HC4 := Aside0.mk hc4
 clear hr4 hc4
 have HR5 := Aside0.mk hr5
 have HC5 := Aside0.mk hc5
 clear hr5 hc5
 have HB := Aside0.mk (Below.refl w.heap.size w)
 have H : ((impl_texts.f k l3).bind fun t340 => ((some (([] : List Int) : List Int)).bind fun y343 => (if y343.length + l4.length < 140737488355328 then ((some (([] : List Int) : List Int)).bind fun y349 => (if y349.length + l5.length < 140737488355328 then ((proof_VerifyConsistency.f k a0_0 a0_1 a0_2 a0_3 a0_4 a0_5 a1 a2 t340 (y343 ++ l4) (y349 ++ l5)).bind fun bt355 => ((impl_verdict.f bt355.1 bt355.2.1 bt355.2.2).bind fun bt363 => (some (bt363.1, bt363.2)))) else (none))) else (none)))) = some (r1, r2) := h
 clear h
 replace H := Option.bind_eq_some_iff.mp H
 obtain ⟨t340, A70, H⟩ := H
 replace H : ((some (([] : List Int) : List Int)).bind fun y343 => (if y343.length + l4.length < 140737488355328 then ((some (([] : List Int) : List Int)).bind fun y349 => (if y349.length + l5.length < 140737488355328 then ((proof_VerifyConsistency.f k a0_0 a0_1 a0_2 a0_3 a0_4 a0_5 a1 a2 t340 (y343 ++ l4) (y349 ++ l5)).bind fun bt355 => ((impl_verdict.f bt355.1 bt355.2.1 bt355.2.2).bind fun bt363 => (some (bt363.1, bt363.2)))) else (none))) else (none))) = some (r1, r2) := H
 have A7 := Aside0.mk A70
 clear A70
 obtain ⟨y343, hy343⟩ : ∃ y_ : List Int, y_ = (([] : List Int)) := ⟨_, rfl⟩
 replace H : (if y343.length + l4.length < 140737488355328 then ((some (([] : List Int) : List Int)).bind fun y349 => (if y349.length + l5.length < 140737488355328 then ((proof_VerifyConsistency.f k a0_0 a0_1 a0_2 a0_3 a0_4 a0_5 a1 a2 t340 (y343 ++ l4) (y349 ++ l5)).bind fun bt355 => ((impl_verdict.f bt355.1 bt355.2.1 bt355.2.2).bind fun bt363 => (some (bt363.1, bt363.2)))) else (none))) else (none)) = some (r1, r2) := by first | (rw [hy343]; with_reducible exact H) | (have H2_ := (Option.bind_some _ _).symm.trans H; rw [hy343]; with_reducible exact H2_) | (have H2_ := (Option.bind_some _ _).symm.trans H; with_reducible exact H2_) | with_reducible exact H | (rw [hy343]; exact H) | exact H
 have Ny343 := Aside0.mk hy343
 clear hy343
 by_cases c8 : y343.length + l4.length < 140737488355328
 ·rw [if_pos c8] at H
  have LMc8 := Aside0.mk c8
  clear c8
  obtain ⟨y346, hy346⟩ : ∃ y_ : List Int, y_ = (y343 ++ l4) := ⟨_, rfl⟩
  replace H : ((some (([] : List Int) : List Int)).bind fun y349 => (if y349.length + l5.length < 140737488355328 then ((proof_VerifyConsistency.f k a0_0 a0_1 a0_2 a0_3 a0_4 a0_5 a1 a2 t340 y346 (y349 ++ l5)).bind fun bt355 => ((impl_verdict.f bt355.1 bt355.2.1 bt355.2.2).bind fun bt363 => (some (bt363.1, bt363.2)))) else (none))) = some (r1, r2) := by first | (rw [hy346]; with_reducible exact H) | (have H2_ := (Option.bind_some _ _).symm.trans H; rw [hy346]; with_reducible exact H2_) | (have H2_ := (Option.bind_some _ _).symm.trans H; with_reducible exact H2_) | with_reducible exact H | (rw [hy346]; exact H) | exact H
  have Ny346 := Aside0.mk hy346
  clear hy346
  obtain ⟨y349, hy349⟩ : ∃ y_ : List Int, y_ = (([] : List Int)) := ⟨_, rfl⟩
  replace H : (if y349.length + l5.length < 140737488355328 then ((proof_VerifyConsistency.f k a0_0 a0_1 a0_2 a0_3 a0_4 a0_5 a1 a2 t340 y346 (y349 ++ l5)).bind fun bt355 => ((impl_verdict.f bt355.1 bt355.2.1 bt355.2.2).bind fun bt363 => (some (bt363.1, bt363.2)))) else (none)) = some (r1, r2) := by first | (rw [hy349]; with_reducible exact H) | (have H2_ := (Option.bind_some _ _).symm.trans H; rw [hy349]; with_reducible exact H2_) | (have H2_ := (Option.bind_some _ _).symm.trans H; with_reducible exact H2_) | with_reducible exact H | (rw [hy349]; exact H) | exact H
  have Ny349 := Aside0.mk hy349
  clear hy349
  by_cases c9 : y349.length + l5.length < 140737488355328
  ·rw [if_pos c9] at H
   have LMc9 := Aside0.mk c9
   clear c9
   obtain ⟨y352, hy352⟩ : ∃ y_ : List Int, y_ = (y349 ++ l5) := ⟨_, rfl⟩
   replace H : ((proof_VerifyConsistency.f k a0_0 a0_1 a0_2 a0_3 a0_4 a0_5 a1 a2 t340 y346 y352).bind fun bt355 => ((impl_verdict.f bt355.1 bt355.2.1 bt355.2.2).bind fun bt363 => (some (bt363.1, bt363.2)))) = some (r1, r2) := by first | (rw [hy352]; with_reducible exact H) | (have H2_ := (Option.bind_some _ _).symm.trans H; rw [hy352]; with_reducible exact H2_) | (have H2_ := (Option.bind_some _ _).symm.trans H; with_reducible exact H2_) | with_reducible exact H | (rw [hy352]; exact H) | exact H
   have Ny352 := Aside0.mk hy352
   clear hy352
   replace H := Option.bind_eq_some_iff.mp H
   obtain ⟨⟨t355, t357, t360⟩, A100, H⟩ := H
   replace H : ((impl_verdict.f t355 t357 t360).bind fun bt363 => (some (bt363.1, bt363.2))) = some (r1, r2) := H
   have A10 := Aside0.mk A100
   clear A100
   replace H := Option.bind_eq_some_iff.mp H
   obtain ⟨⟨t363, t364⟩, A110, H⟩ := H
   replace H : (some (t363, t364)) = some (r1, r2) := H
   have A11 := Aside0.mk A110
   clear A110
   simp only [Option.some.injEq, Prod.mk.injEq] at H
   obtain ⟨rfl, rfl⟩ := H
   go_enter Tryd.func33, Tryd.ntmps33
   try go_wp2_with (first | ((with_reducible refine gate_dst (N := 6) rfl ?_); refine box_event ?hg (N := 6) ?hd (cs := #[.int .i64 a0_0, .int .i64 a0_1, .int .i64 a0_2, .int .u64 a0_3, .int .u64 a0_4, .int .u64 a0_5]) (t := 37) ?hr ?_; (case hd => rfl); (case hg => rfl); (case hr => first | (go_simp; done) | (go_simp; rfl)); intro gb339 hg w12 hbox hb; have n0_ := Aside0.mk (below_step (by repeat (first | (with_reducible first | exact HB.out | apply below_alloc | apply pw_below_drewN | apply below_drew1) | exact HB.out)) hb); have n1_ := Aside0.mk (hbox); have n2_ := Aside0.mk ((by rw [hg]; exact (below_size (by repeat (first | (with_reducible first | exact HB.out | apply below_alloc | apply pw_below_drewN | apply below_drew1) | exact HB.out))) : w.heap.size ≤ gb339)); have n3_ := Aside0.mk ((by rw [hg]; exact (below_size (by repeat (first | (with_reducible first | exact HB.out | apply below_alloc | apply pw_below_drewN | apply below_drew1) | exact HB.out))) : w.heap.size ≤ gb339)); clear HB; have HB := n0_; have BK339 := n1_; have GW339 := n2_; have GE339 := n3_; clear n0_ n1_ n2_ n3_; clear hb hbox hg))
   have n0_ := Aside0.mk (blk_drew BK339.out)
   have n1_ := Aside0.mk (below_drew1 HB.out)
   clear BK339
   clear HB
   have BK339 := n0_
   have HB := n1_
   clear n0_ n1_
   refine start_ (n := 19) (S := fun w' => w'.cell? ⟨gb339, 0, none⟩ = some (.int .i64 a0_0) ∧ w'.cell? ⟨gb339, 1, none⟩ = some (.int .i64 a0_1) ∧ w'.cell? ⟨gb339, 2, none⟩ = some (.int .i64 a0_2) ∧ w'.cell? ⟨gb339, 3, none⟩ = some (.int .u64 a0_3) ∧ w'.cell? ⟨gb339, 4, none⟩ = some (.int .u64 a0_4) ∧ w'.cell? ⟨gb339, 5, none⟩ = some (.int .u64 a0_5)) (ds := []) #[false, false, false, false, false, false, false, false, false, false, false, false, false, false, false, false, false, false, false] (by kernel_rfl) rfl rfl ⟨(blk_cell BK339.out 0).trans rfl, (blk_cell BK339.out 1).trans rfl, (blk_cell BK339.out 2).trans rfl, (blk_cell BK339.out 3).trans rfl, (blk_cell BK339.out 4).trans rfl, (blk_cell BK339.out 5).trans rfl⟩ (fun hHeld => ?_); refine with_tabW impl_VerifyConsistency.tab1 impl_VerifyConsistency.bits1 (fun HT_ HW_ => ?_)
   generalize w12.drew = w13 at BK339 HB hHeld ⊢
   refine pure_ (i := 3) (N := some 17) (v := ?_) (a' := ?_) #[false, false, false, true, false, false, false, false, false, false, false, false, false, false, false, false, false, false, false] rfl rfl (any_of HT_.out (by kernel_rfl)) (fun _ _ _ h => h) (Or.inl ⟨by rfl, ?_⟩) ?_ ?_
   rotate_left
   ·intro w'
    go_simp
    with_reducible rfl
   rotate_left
   ·simp only [Act.put, List.setIfInBounds_toArray, List.set_cons_zero, List.set_cons_succ, i64_w, i32_w]
    rfl
   refine pure_ (i := 4) (N := some 18) (v := ?_) (a' := ?_) #[false, false, false, true, true, false, false, false, false, false, false, false, false, false, false, false, false, false, false] rfl rfl (any_of HT_.out (by kernel_rfl)) (fun _ _ _ h => h) (Or.inl ⟨by rfl, ?_⟩) ?_ ?_
   rotate_left
   ·intro w'
    go_simp
    with_reducible rfl
   rotate_left
   ·simp only [Act.put, List.setIfInBounds_toArray, List.set_cons_zero, List.set_cons_succ, i64_w, i32_w]
    rfl
   refine pure_ (i := 5) (N := some 19) (v := ?_) (a' := ?_) #[false, false, false, true, true, true, false, false, false, false, false, false, false, false, false, false, false, false, false] rfl rfl (any_of HT_.out (by kernel_rfl)) (fun _ _ _ h => h) (Or.inl ⟨by rfl, ?_⟩) ?_ ?_
   rotate_left
   ·intro w'
    go_simp
    with_reducible rfl
   rotate_left
   ·simp only [Act.put, List.setIfInBounds_toArray, List.set_cons_zero, List.set_cons_succ, i64_w, i32_w]
    rfl
   refine pure_ (i := 8) (N := some 22) (v := ?_) (a' := ?_) #[false, false, false, true, true, true, false, false, true, false, false, false, false, false, false, false, false, false, false] rfl rfl (any_of HT_.out (by kernel_rfl)) (fun _ _ _ h => h) (Or.inl ⟨by rfl, ?_⟩) ?_ ?_
   rotate_left
   ·intro w'
    go_simp
    with_reducible rfl
   rotate_left
   ·simp only [Act.put, List.setIfInBounds_toArray, List.set_cons_zero, List.set_cons_succ, i64_w, i32_w]
    rfl
   refine pure_ (i := 11) (N := some 25) (v := ?_) (a' := ?_) #[false, false, false, true, true, true, false, false, true, false, false, true, false, false, false, false, false, false, false] rfl rfl (any_of HT_.out (by kernel_rfl)) (fun _ _ _ h => h) (Or.inl ⟨by rfl, ?_⟩) ?_ ?_
   rotate_left
   ·intro w'
    go_simp
    with_reducible rfl
   rotate_left
   ·simp only [Act.put, List.setIfInBounds_toArray, List.set_cons_zero, List.set_cons_succ, i64_w, i32_w]
    rfl
   refine take_ (i := 0) (N := some 14) (v := ?_) (a' := ?_) #[true, false, false, true, true, true, false, false, true, false, false, true, false, false, false, false, false, false, false] rfl rfl (take_ofW HT_.out HW_.out (by kernel_rfl)) (fun _ _ _ h => h) (Or.inl ⟨by rfl, ?_⟩) hHeld ?_ ?_
   rotate_left
   ·rintro w' ⟨s0, s1, s2, s3, s4, s5⟩
    go_simp
    with_reducible rfl
   rotate_left
   ·simp only [Act.put, List.setIfInBounds_toArray, List.set_cons_zero, List.set_cons_succ, i64_w, i32_w]
    rfl
   refine pure_ (i := 1) (N := some 15) (v := ?_) (a' := ?_) #[true, true, false, true, true, true, false, false, true, false, false, true, false, false, false, false, false, false, false] rfl rfl (any_of HT_.out (by kernel_rfl)) (fun _ _ _ h => h) (Or.inl ⟨by rfl, ?_⟩) ?_ ?_
   rotate_left
   ·intro w'
    go_simp
    with_reducible rfl
   rotate_left
   ·simp only [Act.put, List.setIfInBounds_toArray, List.set_cons_zero, List.set_cons_succ, i64_w, i32_w]
    rfl
   refine pure_ (i := 2) (N := some 16) (v := ?_) (a' := ?_) #[true, true, true, true, true, true, false, false, true, false, false, true, false, false, false, false, false, false, false] rfl rfl (any_of HT_.out (by kernel_rfl)) (fun _ _ _ h => h) (Or.inl ⟨by rfl, ?_⟩) ?_ ?_
   rotate_left
   ·intro w'
    go_simp
    with_reducible rfl
   rotate_left
   ·simp only [Act.put, List.setIfInBounds_toArray, List.set_cons_zero, List.set_cons_succ, i64_w, i32_w]
    rfl
   refine join_ (σ := Value × Value × Value × Value) 7 #[true, true, true, true, true, true, true, true, true, true, true, true, false, false, false, false, false, false, false] (fun s_ => [(20, s_.1), (21, s_.2.1), (23, s_.2.2.1), (24, s_.2.2.2)]) (fun s_ w' => (w'.cell? ⟨gb339, 0, none⟩ = some (.int .i64 a0_0) ∧ w'.cell? ⟨gb339, 1, none⟩ = some (.int .i64 a0_1) ∧ w'.cell? ⟨gb339, 2, none⟩ = some (.int .i64 a0_2) ∧ w'.cell? ⟨gb339, 3, none⟩ = some (.int .u64 a0_3) ∧ w'.cell? ⟨gb339, 4, none⟩ = some (.int .u64 a0_4) ∧ w'.cell? ⟨gb339, 5, none⟩ = some (.int .u64 a0_5)) ∧ (Kd.S (Kd.slice 5 (Kd.int .u8)) 42 w' w.heap.size (fun k_ => some k_ ≠ (s_.2.2.1 : Value).ownBlock ∧ some k_ ≠ (s_.2.2.2 : Value).ownBlock) s_.1 t340) ∧ (Kd.R (Kd.int .u8) 5 w' w.heap.size (fun k_ => some k_ ≠ (s_.2.2.2 : Value).ownBlock) s_.2.2.1 y346) ∧ (Kd.R (Kd.int .u8) 5 w' w.heap.size (fun k_ => some k_ ≠ (s_.2.2.1 : Value).ownBlock) s_.2.2.2 y349) ∧ (w'.heap[gb339]? = some (.cells #[.int .i64 a0_0, .int .i64 a0_1, .int .i64 a0_2, .int .u64 a0_3, .int .u64 a0_4, .int .u64 a0_5] 37 (0, 0))) ∧ (Below w.heap.size w w')) ?_ ?_
   rotate_left
   ·intro hJ6_7_9_10
    refine join_ (σ := Value × Value × Value) 8 #[true, true, true, true, true, true, true, true, true, true, false, true, false, false, false, false, false, false, false] (fun s_ => [(20, s_.1), (21, s_.2.1), (23, s_.2.2)]) (fun s_ w' => (w'.cell? ⟨gb339, 0, none⟩ = some (.int .i64 a0_0) ∧ w'.cell? ⟨gb339, 1, none⟩ = some (.int .i64 a0_1) ∧ w'.cell? ⟨gb339, 2, none⟩ = some (.int .i64 a0_2) ∧ w'.cell? ⟨gb339, 3, none⟩ = some (.int .u64 a0_3) ∧ w'.cell? ⟨gb339, 4, none⟩ = some (.int .u64 a0_4) ∧ w'.cell? ⟨gb339, 5, none⟩ = some (.int .u64 a0_5)) ∧ (Kd.S (Kd.slice 5 (Kd.int .u8)) 42 w' w.heap.size (fun k_ => some k_ ≠ (s_.2.2 : Value).ownBlock) s_.1 t340) ∧ (Kd.R (Kd.int .u8) 5 w' w.heap.size (fun _ => True) s_.2.2 y346) ∧ (w'.heap[gb339]? = some (.cells #[.int .i64 a0_0, .int .i64 a0_1, .int .i64 a0_2, .int .u64 a0_3, .int .u64 a0_4, .int .u64 a0_5] 37 (0, 0))) ∧ (Below w.heap.size w w')) ?_ ?_
    rotate_left
    ·intro hJ6_7_9
     refine join_ (σ := Value × Value × Value) 8 #[true, true, true, true, true, true, true, true, true, false, true, true, false, false, false, false, false, false, false] (fun s_ => [(20, s_.1), (21, s_.2.1), (24, s_.2.2)]) (fun s_ w' => (w'.cell? ⟨gb339, 0, none⟩ = some (.int .i64 a0_0) ∧ w'.cell? ⟨gb339, 1, none⟩ = some (.int .i64 a0_1) ∧ w'.cell? ⟨gb339, 2, none⟩ = some (.int .i64 a0_2) ∧ w'.cell? ⟨gb339, 3, none⟩ = some (.int .u64 a0_3) ∧ w'.cell? ⟨gb339, 4, none⟩ = some (.int .u64 a0_4) ∧ w'.cell? ⟨gb339, 5, none⟩ = some (.int .u64 a0_5)) ∧ (Kd.S (Kd.slice 5 (Kd.int .u8)) 42 w' w.heap.size (fun k_ => some k_ ≠ (s_.2.1 : Value).ownBlock ∧ some k_ ≠ (s_.2.2 : Value).ownBlock) s_.1 t340) ∧ (Kd.R (Kd.int .u8) 5 w' w.heap.size (fun k_ => some k_ ≠ (s_.2.2 : Value).ownBlock) s_.2.1 y343) ∧ (Kd.R (Kd.int .u8) 5 w' w.heap.size (fun k_ => some k_ ≠ (s_.2.1 : Value).ownBlock) s_.2.2 y349) ∧ (w'.heap[gb339]? = some (.cells #[.int .i64 a0_0, .int .i64 a0_1, .int .i64 a0_2, .int .u64 a0_3, .int .u64 a0_4, .int .u64 a0_5] 37 (0, 0))) ∧ (Below w.heap.size w w')) ?_ ?_
     rotate_left
     ·intro hJ6_7_10
      refine join_ (σ := Value × Value) 9 #[true, true, true, true, true, true, true, true, true, false, false, true, false, false, false, false, false, false, false] (fun s_ => [(20, s_.1), (21, s_.2)]) (fun s_ w' => (w'.cell? ⟨gb339, 0, none⟩ = some (.int .i64 a0_0) ∧ w'.cell? ⟨gb339, 1, none⟩ = some (.int .i64 a0_1) ∧ w'.cell? ⟨gb339, 2, none⟩ = some (.int .i64 a0_2) ∧ w'.cell? ⟨gb339, 3, none⟩ = some (.int .u64 a0_3) ∧ w'.cell? ⟨gb339, 4, none⟩ = some (.int .u64 a0_4) ∧ w'.cell? ⟨gb339, 5, none⟩ = some (.int .u64 a0_5)) ∧ (Kd.S (Kd.slice 5 (Kd.int .u8)) 42 w' w.heap.size (fun k_ => some k_ ≠ (s_.2 : Value).ownBlock) s_.1 t340) ∧ (Kd.R (Kd.int .u8) 5 w' w.heap.size (fun _ => True) s_.2 y343) ∧ (w'.heap[gb339]? = some (.cells #[.int .i64 a0_0, .int .i64 a0_1, .int .i64 a0_2, .int .u64 a0_3, .int .u64 a0_4, .int .u64 a0_5] 37 (0, 0))) ∧ (Below w.heap.size w w')) ?_ ?_
      rotate_left
      ·intro hJ6_7
       refine join_ (σ := Value × Value) 9 #[true, true, true, true, true, true, true, false, true, false, true, true, false, false, false, false, false, false, false] (fun s_ => [(20, s_.1), (24, s_.2)]) (fun s_ w' => (w'.cell? ⟨gb339, 0, none⟩ = some (.int .i64 a0_0) ∧ w'.cell? ⟨gb339, 1, none⟩ = some (.int .i64 a0_1) ∧ w'.cell? ⟨gb339, 2, none⟩ = some (.int .i64 a0_2) ∧ w'.cell? ⟨gb339, 3, none⟩ = some (.int .u64 a0_3) ∧ w'.cell? ⟨gb339, 4, none⟩ = some (.int .u64 a0_4) ∧ w'.cell? ⟨gb339, 5, none⟩ = some (.int .u64 a0_5)) ∧ (Kd.S (Kd.slice 5 (Kd.int .u8)) 42 w' w.heap.size (fun k_ => some k_ ≠ (s_.2 : Value).ownBlock) s_.1 t340) ∧ (Kd.R (Kd.int .u8) 5 w' w.heap.size (fun _ => True) s_.2 y349) ∧ (w'.heap[gb339]? = some (.cells #[.int .i64 a0_0, .int .i64 a0_1, .int .i64 a0_2, .int .u64 a0_3, .int .u64 a0_4, .int .u64 a0_5] 37 (0, 0))) ∧ (Below w.heap.size w w')) ?_ ?_
       rotate_left
       ·intro hJ6_10
        refine join_ (σ := Value × Value) 9 #[true, true, true, true, true, true, false, true, true, false, true, true, false, false, false, false, false, false, false] (fun s_ => [(21, s_.1), (24, s_.2)]) (fun s_ w' => (w'.cell? ⟨gb339, 0, none⟩ = some (.int .i64 a0_0) ∧ w'.cell? ⟨gb339, 1, none⟩ = some (.int .i64 a0_1) ∧ w'.cell? ⟨gb339, 2, none⟩ = some (.int .i64 a0_2) ∧ w'.cell? ⟨gb339, 3, none⟩ = some (.int .u64 a0_3) ∧ w'.cell? ⟨gb339, 4, none⟩ = some (.int .u64 a0_4) ∧ w'.cell? ⟨gb339, 5, none⟩ = some (.int .u64 a0_5)) ∧ (Kd.R (Kd.int .u8) 5 w' w.heap.size (fun k_ => some k_ ≠ (s_.2 : Value).ownBlock) s_.1 y343) ∧ (Kd.R (Kd.int .u8) 5 w' w.heap.size (fun k_ => some k_ ≠ (s_.1 : Value).ownBlock) s_.2 y349) ∧ (w'.heap[gb339]? = some (.cells #[.int .i64 a0_0, .int .i64 a0_1, .int .i64 a0_2, .int .u64 a0_3, .int .u64 a0_4, .int .u64 a0_5] 37 (0, 0))) ∧ (Below w.heap.size w w')) ?_ ?_
        rotate_left
        ·intro hJ7_10
         refine join_ (σ := Value) 10 #[true, true, true, true, true, true, true, false, true, false, false, true, false, false, false, false, false, false, false] (fun s_ => [(20, s_)]) (fun s_ w' => (w'.cell? ⟨gb339, 0, none⟩ = some (.int .i64 a0_0) ∧ w'.cell? ⟨gb339, 1, none⟩ = some (.int .i64 a0_1) ∧ w'.cell? ⟨gb339, 2, none⟩ = some (.int .i64 a0_2) ∧ w'.cell? ⟨gb339, 3, none⟩ = some (.int .u64 a0_3) ∧ w'.cell? ⟨gb339, 4, none⟩ = some (.int .u64 a0_4) ∧ w'.cell? ⟨gb339, 5, none⟩ = some (.int .u64 a0_5)) ∧ (Kd.S (Kd.slice 5 (Kd.int .u8)) 42 w' w.heap.size (fun _ => True) s_ t340) ∧ (w'.heap[gb339]? = some (.cells #[.int .i64 a0_0, .int .i64 a0_1, .int .i64 a0_2, .int .u64 a0_3, .int .u64 a0_4, .int .u64 a0_5] 37 (0, 0))) ∧ (Below w.heap.size w w')) ?_ ?_
         rotate_left
         ·intro hJ6
          refine join_ (σ := Value) 10 #[true, true, true, true, true, true, false, true, true, false, false, true, false, false, false, false, false, false, false] (fun s_ => [(21, s_)]) (fun s_ w' => (w'.cell? ⟨gb339, 0, none⟩ = some (.int .i64 a0_0) ∧ w'.cell? ⟨gb339, 1, none⟩ = some (.int .i64 a0_1) ∧ w'.cell? ⟨gb339, 2, none⟩ = some (.int .i64 a0_2) ∧ w'.cell? ⟨gb339, 3, none⟩ = some (.int .u64 a0_3) ∧ w'.cell? ⟨gb339, 4, none⟩ = some (.int .u64 a0_4) ∧ w'.cell? ⟨gb339, 5, none⟩ = some (.int .u64 a0_5)) ∧ (Kd.R (Kd.int .u8) 5 w' w.heap.size (fun _ => True) s_ y343) ∧ (w'.heap[gb339]? = some (.cells #[.int .i64 a0_0, .int .i64 a0_1, .int .i64 a0_2, .int .u64 a0_3, .int .u64 a0_4, .int .u64 a0_5] 37 (0, 0))) ∧ (Below w.heap.size w w')) ?_ ?_
          rotate_left
          ·intro hJ7
           refine join_ (σ := Value) 10 #[true, true, true, true, true, true, false, false, true, false, true, true, false, false, false, false, false, false, false] (fun s_ => [(24, s_)]) (fun s_ w' => (w'.cell? ⟨gb339, 0, none⟩ = some (.int .i64 a0_0) ∧ w'.cell? ⟨gb339, 1, none⟩ = some (.int .i64 a0_1) ∧ w'.cell? ⟨gb339, 2, none⟩ = some (.int .i64 a0_2) ∧ w'.cell? ⟨gb339, 3, none⟩ = some (.int .u64 a0_3) ∧ w'.cell? ⟨gb339, 4, none⟩ = some (.int .u64 a0_4) ∧ w'.cell? ⟨gb339, 5, none⟩ = some (.int .u64 a0_5)) ∧ (Kd.R (Kd.int .u8) 5 w' w.heap.size (fun _ => True) s_ y349) ∧ (w'.heap[gb339]? = some (.cells #[.int .i64 a0_0, .int .i64 a0_1, .int .i64 a0_2, .int .u64 a0_3, .int .u64 a0_4, .int .u64 a0_5] 37 (0, 0))) ∧ (Below w.heap.size w w')) ?_ ?_
           rotate_left
           ·intro hJ10
            refine three_ (i := 6) (j := 7) (k := 10) (Ni := some 20) (Nj := some 21) (Nk := some 24) #[true, true, true, true, true, true, true, false, true, false, false, true, false, false, false, false, false, false, false] #[true, true, true, true, true, true, false, true, true, false, false, true, false, false, false, false, false, false, false] #[true, true, true, true, true, true, false, false, true, false, true, true, false, false, false, false, false, false, false] rfl rfl rfl rfl rfl rfl (three_of HT_.out (by kernel_rfl)) (by decide) (by decide) (by decide) (fun K hK => ?_) (fun K hK => ?_) (fun K hK => ?_)
            ·skip
             refine goes_ Tryd.func70 (by kernel_rfl) rfl #[.slice A3 l3.length c3] (by rfl) rfl rfl (by (try simp only [List.map_toArray, List.map_cons, List.map_nil]); first | done | rfl | (simp only [List.length_drop, List.length_take]; rfl)) ?_
             with_reducible refine (impl_texts.calls k _ _ l3 t340 _ ?side1 ?side2 A7.out).mono ?_
             (case side1 => repeat (first | exact (Kd.C_below HR3.out HB.out) | (with_reducible refine Kd.C_alloc ?_ _) | (with_reducible refine Kd.C_drewN ?_ _) | (with_reducible refine Kd.C_drew ?_)))
             (case side2 => exact HC3.out)
             rintro e w14 ⟨v341, rfl, ho0, hb⟩
             refine ⟨_, rfl, ?_⟩
             have n0_ := Aside0.mk (Kd.S_lower ho0 (below_size (by repeat (first | (with_reducible first | exact HB.out | apply below_alloc | apply pw_below_drewN | apply below_drew1 | refine below_set ?_ GE339.out) | exact HB.out))))
             have n1_ := Aside0.mk (blk_below (g := gb339) (o := .cells #[.int .i64 a0_0, .int .i64 a0_1, .int .i64 a0_2, .int .u64 a0_3, .int .u64 a0_4, .int .u64 a0_5] 37 (0, 0)) (by (with_reducible repeat (first | refine blk_drewN ?_ _ | refine blk_drew ?_ | refine blk_alloc ?_ _)); exact BK339.out) hb)
             have n2_ := Aside0.mk (below_step (by repeat (first | (with_reducible first | exact HB.out | apply below_alloc | apply pw_below_drewN | apply below_drew1 | refine below_set ?_ GE339.out) | exact HB.out)) hb)
             clear BK339
             clear HB
             have HO342 := n0_
             have BK339 := n1_
             have HB := n2_
             clear n0_ n1_ n2_
             (try clear hb)
             (try clear hb2)
             (try clear hk)
             (try clear hi)
             (try clear ho0)
             refine hK.out _ _ ⟨(blk_cell BK339.out 0).trans rfl, (blk_cell BK339.out 1).trans rfl, (blk_cell BK339.out 2).trans rfl, (blk_cell BK339.out 3).trans rfl, (blk_cell BK339.out 4).trans rfl, (blk_cell BK339.out 5).trans rfl⟩ (fun hHeld => ?_)
             clear hK K
             refine norm_ (a' := ?_) ?_ ?_
             rotate_left
             ·show Act.put _ (some 20) _ = _
              simp only [Act.put, List.setIfInBounds_toArray, List.set_cons_zero, List.set_cons_succ, i64_w, i32_w]
              rfl
             exact norm_ (by first | (simp only [putAll, Act.put, List.setIfInBounds_toArray, List.set_cons_zero, List.set_cons_succ]; done) | (simp only [putAll, Act.put, List.setIfInBounds_toArray, List.set_cons_zero, List.set_cons_succ]; rfl)) (hJ6 (v341) _ ⟨hHeld, (by (with_reducible repeat (first | apply Kd.S_alloc | apply Kd.S_drewN | apply Kd.S_drew)); exact HO342.out), (by (with_reducible repeat (first | refine blk_drewN ?_ _ | refine blk_drew ?_ | refine blk_alloc ?_ _)); exact BK339.out), (by repeat (first | (with_reducible first | exact HB.out | apply below_alloc | apply pw_below_drewN | apply below_drew1 | refine below_set ?_ GE339.out) | exact HB.out))⟩)
            ·skip
             refine Kd.R_lit_step (Kd.int .u8) _ 5 ?hg (N := 21) ?hd (xs := ([] : List Int)) (inner := []) (ok := fun _ => True) (okp := fun _ => True) ?hr ?hp (fun _ hk => hk) trivial (Below.refl _ _) (Nat.le_refl _) (by simp) ?_; (case hd => rfl); (case hg => rfl); (case hr => first | (go_simp; done) | (go_simp; rfl)); (case hp => exact (Reps.none _ _))
             intro v344 w14 ho15 hb hg_ hnew_
             clear hg_ hnew_
             (first | rw [← Ny343.out] at ho15 | (simp only [Int.reduceToNat] at ho15; rw [← Ny343.out] at ho15))
             have n0_ := Aside0.mk (Kd.R_lower ho15 (below_size (by repeat (first | (with_reducible first | exact HB.out | apply below_alloc | apply pw_below_drewN | apply below_drew1 | refine below_set ?_ GE339.out) | exact HB.out))))
             have n1_ := Aside0.mk (blk_below (g := gb339) (o := .cells #[.int .i64 a0_0, .int .i64 a0_1, .int .i64 a0_2, .int .u64 a0_3, .int .u64 a0_4, .int .u64 a0_5] 37 (0, 0)) (by (with_reducible repeat (first | refine blk_drewN ?_ _ | refine blk_drew ?_ | refine blk_alloc ?_ _)); exact BK339.out) hb)
             have n2_ := Aside0.mk (below_step (by repeat (first | (with_reducible first | exact HB.out | apply below_alloc | apply pw_below_drewN | apply below_drew1 | refine below_set ?_ GE339.out) | exact HB.out)) hb)
             clear BK339
             clear HB
             have HO345 := n0_
             have BK339 := n1_
             have HB := n2_
             clear n0_ n1_ n2_
             clear hb ho15
             refine hK.out _ _ ⟨(blk_cell BK339.out 0).trans rfl, (blk_cell BK339.out 1).trans rfl, (blk_cell BK339.out 2).trans rfl, (blk_cell BK339.out 3).trans rfl, (blk_cell BK339.out 4).trans rfl, (blk_cell BK339.out 5).trans rfl⟩ (fun hHeld => ?_)
             clear hK K
             refine norm_ (a' := ?_) ?_ ?_
             rotate_left
             ·show Act.put _ (some 21) _ = _
              simp only [Act.put, List.setIfInBounds_toArray, List.set_cons_zero, List.set_cons_succ, i64_w, i32_w]
              rfl
             exact norm_ (by first | (simp only [putAll, Act.put, List.setIfInBounds_toArray, List.set_cons_zero, List.set_cons_succ]; done) | (simp only [putAll, Act.put, List.setIfInBounds_toArray, List.set_cons_zero, List.set_cons_succ]; rfl)) (hJ7 (v344) _ ⟨hHeld, (by (with_reducible repeat (first | apply Kd.R_alloc | apply Kd.R_drewN | apply Kd.R_drew)); exact HO345.out), (by (with_reducible repeat (first | refine blk_drewN ?_ _ | refine blk_drew ?_ | refine blk_alloc ?_ _)); exact BK339.out), (by repeat (first | (with_reducible first | exact HB.out | apply below_alloc | apply pw_below_drewN | apply below_drew1 | refine below_set ?_ GE339.out) | exact HB.out))⟩)
            ·skip
             refine Kd.R_lit_step (Kd.int .u8) _ 5 ?hg (N := 24) ?hd (xs := ([] : List Int)) (inner := []) (ok := fun _ => True) (okp := fun _ => True) ?hr ?hp (fun _ hk => hk) trivial (Below.refl _ _) (Nat.le_refl _) (by simp) ?_; (case hd => rfl); (case hg => rfl); (case hr => first | (go_simp; done) | (go_simp; rfl)); (case hp => exact (Reps.none _ _))
             intro v350 w14 ho15 hb hg_ hnew_
             clear hg_ hnew_
             (first | rw [← Ny349.out] at ho15 | (simp only [Int.reduceToNat] at ho15; rw [← Ny349.out] at ho15))
             have n0_ := Aside0.mk (Kd.R_lower ho15 (below_size (by repeat (first | (with_reducible first | exact HB.out | apply below_alloc | apply pw_below_drewN | apply below_drew1 | refine below_set ?_ GE339.out) | exact HB.out))))
             have n1_ := Aside0.mk (blk_below (g := gb339) (o := .cells #[.int .i64 a0_0, .int .i64 a0_1, .int .i64 a0_2, .int .u64 a0_3, .int .u64 a0_4, .int .u64 a0_5] 37 (0, 0)) (by (with_reducible repeat (first | refine blk_drewN ?_ _ | refine blk_drew ?_ | refine blk_alloc ?_ _)); exact BK339.out) hb)
             have n2_ := Aside0.mk (below_step (by repeat (first | (with_reducible first | exact HB.out | apply below_alloc | apply pw_below_drewN | apply below_drew1 | refine below_set ?_ GE339.out) | exact HB.out)) hb)
             clear BK339
             clear HB
             have HO351 := n0_
             have BK339 := n1_
             have HB := n2_
             clear n0_ n1_ n2_
             clear hb ho15
             refine hK.out _ _ ⟨(blk_cell BK339.out 0).trans rfl, (blk_cell BK339.out 1).trans rfl, (blk_cell BK339.out 2).trans rfl, (blk_cell BK339.out 3).trans rfl, (blk_cell BK339.out 4).trans rfl, (blk_cell BK339.out 5).trans rfl⟩ (fun hHeld => ?_)
             clear hK K
             refine norm_ (a' := ?_) ?_ ?_
             rotate_left
             ·show Act.put _ (some 24) _ = _
              simp only [Act.put, List.setIfInBounds_toArray, List.set_cons_zero, List.set_cons_succ, i64_w, i32_w]
              rfl
             exact norm_ (by first | (simp only [putAll, Act.put, List.setIfInBounds_toArray, List.set_cons_zero, List.set_cons_succ]; done) | (simp only [putAll, Act.put, List.setIfInBounds_toArray, List.set_cons_zero, List.set_cons_succ]; rfl)) (hJ10 (v350) _ ⟨hHeld, (by (with_reducible repeat (first | apply Kd.R_alloc | apply Kd.R_drewN | apply Kd.R_drew)); exact HO351.out), (by (with_reducible repeat (first | refine blk_drewN ?_ _ | refine blk_drew ?_ | refine blk_alloc ?_ _)); exact BK339.out), (by repeat (first | (with_reducible first | exact HB.out | apply below_alloc | apply pw_below_drewN | apply below_drew1 | refine below_set ?_ GE339.out) | exact HB.out))⟩)
           ·skip
            rintro v350 w16 ⟨hS_, h0_, h1_, h2_⟩
            have n0_ : Aside0 (Kd.R (Kd.int .u8) 5 w16 w.heap.size (fun _ => True) v350 y349) := ⟨h0_⟩
            have n1_ : Aside0 (w16.heap[gb339]? = some (.cells #[.int .i64 a0_0, .int .i64 a0_1, .int .i64 a0_2, .int .u64 a0_3, .int .u64 a0_4, .int .u64 a0_5] 37 (0, 0))) := ⟨h1_⟩
            have n2_ : Aside0 (Below w.heap.size w w16) := ⟨h2_⟩
            clear BK339
            clear HB
            clear h0_ h1_ h2_
            have HO351 := n0_
            have BK339 := n1_
            have HB := n2_
            clear n0_ n1_ n2_
            have hHeld : w16.cell? ⟨gb339, 0, none⟩ = some (.int .i64 a0_0) ∧ w16.cell? ⟨gb339, 1, none⟩ = some (.int .i64 a0_1) ∧ w16.cell? ⟨gb339, 2, none⟩ = some (.int .i64 a0_2) ∧ w16.cell? ⟨gb339, 3, none⟩ = some (.int .u64 a0_3) ∧ w16.cell? ⟨gb339, 4, none⟩ = some (.int .u64 a0_4) ∧ w16.cell? ⟨gb339, 5, none⟩ = some (.int .u64 a0_5) := hS_
            refine norm_ (a' := ?_) ?_ ?_
            rotate_left
            ·simp only [putAll, Act.put, List.setIfInBounds_toArray, List.set_cons_zero, List.set_cons_succ]
             rfl
            refine two_ (i := 6) (j := 7) (Ni := some 20) (Nj := some 21) #[true, true, true, true, true, true, true, false, true, false, true, true, false, false, false, false, false, false, false] #[true, true, true, true, true, true, false, true, true, false, true, true, false, false, false, false, false, false, false] rfl rfl rfl rfl (two_of HT_.out (by kernel_rfl)) (by decide) (by decide) (fun K hK => ?_) (fun K hK => ?_)
            ·skip
             refine goes_ Tryd.func70 (by kernel_rfl) rfl #[.slice A3 l3.length c3] (by rfl) rfl rfl (by (try simp only [List.map_toArray, List.map_cons, List.map_nil]); first | done | rfl | (simp only [List.length_drop, List.length_take]; rfl)) ?_
             with_reducible refine (impl_texts.calls k _ _ l3 t340 _ ?side1 ?side2 A7.out).mono ?_
             (case side1 => repeat (first | exact (Kd.C_below HR3.out HB.out) | (with_reducible refine Kd.C_alloc ?_ _) | (with_reducible refine Kd.C_drewN ?_ _) | (with_reducible refine Kd.C_drew ?_)))
             (case side2 => exact HC3.out)
             rintro e w17 ⟨v341, rfl, ho0, hb⟩
             refine ⟨_, rfl, ?_⟩
             have n0_ := Aside0.mk (Kd.R_below (by (with_reducible repeat (first | apply Kd.R_alloc | apply Kd.R_drewN | apply Kd.R_drew)); exact HO351.out) hb)
             have n1_ := Aside0.mk (Kd.S_lower (Kd.S_new' ho0 (Kd.R_lt (by (with_reducible repeat (first | apply Kd.R_alloc | apply Kd.R_drewN | apply Kd.R_drew)); exact HO351.out))) (below_size (by repeat (first | (with_reducible first | exact HB.out | apply below_alloc | apply pw_below_drewN | apply below_drew1 | refine below_set ?_ GE339.out) | exact HB.out))))
             have n2_ := Aside0.mk (blk_below (g := gb339) (o := .cells #[.int .i64 a0_0, .int .i64 a0_1, .int .i64 a0_2, .int .u64 a0_3, .int .u64 a0_4, .int .u64 a0_5] 37 (0, 0)) (by (with_reducible repeat (first | refine blk_drewN ?_ _ | refine blk_drew ?_ | refine blk_alloc ?_ _)); exact BK339.out) hb)
             have n3_ := Aside0.mk (below_step (by repeat (first | (with_reducible first | exact HB.out | apply below_alloc | apply pw_below_drewN | apply below_drew1 | refine below_set ?_ GE339.out) | exact HB.out)) hb)
             clear HO351
             clear BK339
             clear HB
             have HO351 := n0_
             have HO342 := n1_
             have BK339 := n2_
             have HB := n3_
             clear n0_ n1_ n2_ n3_
             (try clear hb)
             (try clear hb2)
             (try clear hk)
             (try clear hi)
             (try clear ho0)
             refine hK.out _ _ ⟨(blk_cell BK339.out 0).trans rfl, (blk_cell BK339.out 1).trans rfl, (blk_cell BK339.out 2).trans rfl, (blk_cell BK339.out 3).trans rfl, (blk_cell BK339.out 4).trans rfl, (blk_cell BK339.out 5).trans rfl⟩ (fun hHeld => ?_)
             clear hK K
             refine norm_ (a' := ?_) ?_ ?_
             rotate_left
             ·show Act.put _ (some 20) _ = _
              simp only [Act.put, List.setIfInBounds_toArray, List.set_cons_zero, List.set_cons_succ, i64_w, i32_w]
              rfl
             exact norm_ (by first | (simp only [putAll, Act.put, List.setIfInBounds_toArray, List.set_cons_zero, List.set_cons_succ]; done) | (simp only [putAll, Act.put, List.setIfInBounds_toArray, List.set_cons_zero, List.set_cons_succ]; rfl)) (hJ6_10 (v341, v350) _ ⟨hHeld, (by (with_reducible repeat (first | apply Kd.S_alloc | apply Kd.S_drewN | apply Kd.S_drew)); exact Kd.S_mono HO342.out (fun _ hk => hk.2)), (by (with_reducible repeat (first | apply Kd.R_alloc | apply Kd.R_drewN | apply Kd.R_drew)); exact HO351.out), (by (with_reducible repeat (first | refine blk_drewN ?_ _ | refine blk_drew ?_ | refine blk_alloc ?_ _)); exact BK339.out), (by repeat (first | (with_reducible first | exact HB.out | apply below_alloc | apply pw_below_drewN | apply below_drew1 | refine below_set ?_ GE339.out) | exact HB.out))⟩)
            ·skip
             refine Kd.R_lit_step (Kd.int .u8) _ 5 ?hg (N := 21) ?hd (xs := ([] : List Int)) (inner := []) (ok := fun _ => True) (okp := fun _ => True) ?hr ?hp (fun _ hk => hk) trivial (Below.refl _ _) (Nat.le_refl _) (by simp) ?_; (case hd => rfl); (case hg => rfl); (case hr => first | (go_simp; done) | (go_simp; rfl)); (case hp => exact (Reps.none _ _))
             intro v344 w17 ho18 hb hg_ hnew_
             clear hg_ hnew_
             (first | rw [← Ny343.out] at ho18 | (simp only [Int.reduceToNat] at ho18; rw [← Ny343.out] at ho18))
             have n0_ := Aside0.mk (Kd.R_elder' (by (with_reducible repeat (first | apply Kd.R_alloc | apply Kd.R_drewN | apply Kd.R_drew)); exact HO351.out) (Kd.R_base ho18) hb)
             have n1_ := Aside0.mk (Kd.R_lower (Kd.R_new' ho18 (Kd.R_lt (by (with_reducible repeat (first | apply Kd.R_alloc | apply Kd.R_drewN | apply Kd.R_drew)); exact HO351.out))) (below_size (by repeat (first | (with_reducible first | exact HB.out | apply below_alloc | apply pw_below_drewN | apply below_drew1 | refine below_set ?_ GE339.out) | exact HB.out))))
             have n2_ := Aside0.mk (blk_below (g := gb339) (o := .cells #[.int .i64 a0_0, .int .i64 a0_1, .int .i64 a0_2, .int .u64 a0_3, .int .u64 a0_4, .int .u64 a0_5] 37 (0, 0)) (by (with_reducible repeat (first | refine blk_drewN ?_ _ | refine blk_drew ?_ | refine blk_alloc ?_ _)); exact BK339.out) hb)
             have n3_ := Aside0.mk (below_step (by repeat (first | (with_reducible first | exact HB.out | apply below_alloc | apply pw_below_drewN | apply below_drew1 | refine below_set ?_ GE339.out) | exact HB.out)) hb)
             clear HO351
             clear BK339
             clear HB
             have HO351 := n0_
             have HO345 := n1_
             have BK339 := n2_
             have HB := n3_
             clear n0_ n1_ n2_ n3_
             clear hb ho18
             refine hK.out _ _ ⟨(blk_cell BK339.out 0).trans rfl, (blk_cell BK339.out 1).trans rfl, (blk_cell BK339.out 2).trans rfl, (blk_cell BK339.out 3).trans rfl, (blk_cell BK339.out 4).trans rfl, (blk_cell BK339.out 5).trans rfl⟩ (fun hHeld => ?_)
             clear hK K
             refine norm_ (a' := ?_) ?_ ?_
             rotate_left
             ·show Act.put _ (some 21) _ = _
              simp only [Act.put, List.setIfInBounds_toArray, List.set_cons_zero, List.set_cons_succ, i64_w, i32_w]
              rfl
             exact norm_ (by first | (simp only [putAll, Act.put, List.setIfInBounds_toArray, List.set_cons_zero, List.set_cons_succ]; done) | (simp only [putAll, Act.put, List.setIfInBounds_toArray, List.set_cons_zero, List.set_cons_succ]; rfl)) (hJ7_10 (v344, v350) _ ⟨hHeld, (by (with_reducible repeat (first | apply Kd.R_alloc | apply Kd.R_drewN | apply Kd.R_drew)); exact Kd.R_mono HO345.out (fun _ hk => hk.2)), (by (with_reducible repeat (first | apply Kd.R_alloc | apply Kd.R_drewN | apply Kd.R_drew)); exact Kd.R_mono HO351.out (fun _ hk => hk.2)), (by (with_reducible repeat (first | refine blk_drewN ?_ _ | refine blk_drew ?_ | refine blk_alloc ?_ _)); exact BK339.out), (by repeat (first | (with_reducible first | exact HB.out | apply below_alloc | apply pw_below_drewN | apply below_drew1 | refine below_set ?_ GE339.out) | exact HB.out))⟩)
          ·skip
           rintro v344 w16 ⟨hS_, h0_, h1_, h2_⟩
           have n0_ : Aside0 (Kd.R (Kd.int .u8) 5 w16 w.heap.size (fun _ => True) v344 y343) := ⟨h0_⟩
           have n1_ : Aside0 (w16.heap[gb339]? = some (.cells #[.int .i64 a0_0, .int .i64 a0_1, .int .i64 a0_2, .int .u64 a0_3, .int .u64 a0_4, .int .u64 a0_5] 37 (0, 0))) := ⟨h1_⟩
           have n2_ : Aside0 (Below w.heap.size w w16) := ⟨h2_⟩
           clear BK339
           clear HB
           clear h0_ h1_ h2_
           have HO345 := n0_
           have BK339 := n1_
           have HB := n2_
           clear n0_ n1_ n2_
           have hHeld : w16.cell? ⟨gb339, 0, none⟩ = some (.int .i64 a0_0) ∧ w16.cell? ⟨gb339, 1, none⟩ = some (.int .i64 a0_1) ∧ w16.cell? ⟨gb339, 2, none⟩ = some (.int .i64 a0_2) ∧ w16.cell? ⟨gb339, 3, none⟩ = some (.int .u64 a0_3) ∧ w16.cell? ⟨gb339, 4, none⟩ = some (.int .u64 a0_4) ∧ w16.cell? ⟨gb339, 5, none⟩ = some (.int .u64 a0_5) := hS_
           refine norm_ (a' := ?_) ?_ ?_
           rotate_left
           ·simp only [putAll, Act.put, List.setIfInBounds_toArray, List.set_cons_zero, List.set_cons_succ]
            rfl
           refine two_ (i := 6) (j := 10) (Ni := some 20) (Nj := some 24) #[true, true, true, true, true, true, true, true, true, false, false, true, false, false, false, false, false, false, false] #[true, true, true, true, true, true, false, true, true, false, true, true, false, false, false, false, false, false, false] rfl rfl rfl rfl (two_of HT_.out (by kernel_rfl)) (by decide) (by decide) (fun K hK => ?_) (fun K hK => ?_)
           ·skip
            refine goes_ Tryd.func70 (by kernel_rfl) rfl #[.slice A3 l3.length c3] (by rfl) rfl rfl (by (try simp only [List.map_toArray, List.map_cons, List.map_nil]); first | done | rfl | (simp only [List.length_drop, List.length_take]; rfl)) ?_
            with_reducible refine (impl_texts.calls k _ _ l3 t340 _ ?side1 ?side2 A7.out).mono ?_
            (case side1 => repeat (first | exact (Kd.C_below HR3.out HB.out) | (with_reducible refine Kd.C_alloc ?_ _) | (with_reducible refine Kd.C_drewN ?_ _) | (with_reducible refine Kd.C_drew ?_)))
            (case side2 => exact HC3.out)
            rintro e w17 ⟨v341, rfl, ho0, hb⟩
            refine ⟨_, rfl, ?_⟩
            have n0_ := Aside0.mk (Kd.R_below (by (with_reducible repeat (first | apply Kd.R_alloc | apply Kd.R_drewN | apply Kd.R_drew)); exact HO345.out) hb)
            have n1_ := Aside0.mk (Kd.S_lower (Kd.S_new' ho0 (Kd.R_lt (by (with_reducible repeat (first | apply Kd.R_alloc | apply Kd.R_drewN | apply Kd.R_drew)); exact HO345.out))) (below_size (by repeat (first | (with_reducible first | exact HB.out | apply below_alloc | apply pw_below_drewN | apply below_drew1 | refine below_set ?_ GE339.out) | exact HB.out))))
            have n2_ := Aside0.mk (blk_below (g := gb339) (o := .cells #[.int .i64 a0_0, .int .i64 a0_1, .int .i64 a0_2, .int .u64 a0_3, .int .u64 a0_4, .int .u64 a0_5] 37 (0, 0)) (by (with_reducible repeat (first | refine blk_drewN ?_ _ | refine blk_drew ?_ | refine blk_alloc ?_ _)); exact BK339.out) hb)
            have n3_ := Aside0.mk (below_step (by repeat (first | (with_reducible first | exact HB.out | apply below_alloc | apply pw_below_drewN | apply below_drew1 | refine below_set ?_ GE339.out) | exact HB.out)) hb)
            clear HO345
            clear BK339
            clear HB
            have HO345 := n0_
            have HO342 := n1_
            have BK339 := n2_
            have HB := n3_
            clear n0_ n1_ n2_ n3_
            (try clear hb)
            (try clear hb2)
            (try clear hk)
            (try clear hi)
            (try clear ho0)
            refine hK.out _ _ ⟨(blk_cell BK339.out 0).trans rfl, (blk_cell BK339.out 1).trans rfl, (blk_cell BK339.out 2).trans rfl, (blk_cell BK339.out 3).trans rfl, (blk_cell BK339.out 4).trans rfl, (blk_cell BK339.out 5).trans rfl⟩ (fun hHeld => ?_)
            clear hK K
            refine norm_ (a' := ?_) ?_ ?_
            rotate_left
            ·show Act.put _ (some 20) _ = _
             simp only [Act.put, List.setIfInBounds_toArray, List.set_cons_zero, List.set_cons_succ, i64_w, i32_w]
             rfl
            exact norm_ (by first | (simp only [putAll, Act.put, List.setIfInBounds_toArray, List.set_cons_zero, List.set_cons_succ]; done) | (simp only [putAll, Act.put, List.setIfInBounds_toArray, List.set_cons_zero, List.set_cons_succ]; rfl)) (hJ6_7 (v341, v344) _ ⟨hHeld, (by (with_reducible repeat (first | apply Kd.S_alloc | apply Kd.S_drewN | apply Kd.S_drew)); exact Kd.S_mono HO342.out (fun _ hk => hk.2)), (by (with_reducible repeat (first | apply Kd.R_alloc | apply Kd.R_drewN | apply Kd.R_drew)); exact HO345.out), (by (with_reducible repeat (first | refine blk_drewN ?_ _ | refine blk_drew ?_ | refine blk_alloc ?_ _)); exact BK339.out), (by repeat (first | (with_reducible first | exact HB.out | apply below_alloc | apply pw_below_drewN | apply below_drew1 | refine below_set ?_ GE339.out) | exact HB.out))⟩)
           ·skip
            refine Kd.R_lit_step (Kd.int .u8) _ 5 ?hg (N := 24) ?hd (xs := ([] : List Int)) (inner := []) (ok := fun _ => True) (okp := fun _ => True) ?hr ?hp (fun _ hk => hk) trivial (Below.refl _ _) (Nat.le_refl _) (by simp) ?_; (case hd => rfl); (case hg => rfl); (case hr => first | (go_simp; done) | (go_simp; rfl)); (case hp => exact (Reps.none _ _))
            intro v350 w17 ho18 hb hg_ hnew_
            clear hg_ hnew_
            (first | rw [← Ny349.out] at ho18 | (simp only [Int.reduceToNat] at ho18; rw [← Ny349.out] at ho18))
            have n0_ := Aside0.mk (Kd.R_elder' (by (with_reducible repeat (first | apply Kd.R_alloc | apply Kd.R_drewN | apply Kd.R_drew)); exact HO345.out) (Kd.R_base ho18) hb)
            have n1_ := Aside0.mk (Kd.R_lower (Kd.R_new' ho18 (Kd.R_lt (by (with_reducible repeat (first | apply Kd.R_alloc | apply Kd.R_drewN | apply Kd.R_drew)); exact HO345.out))) (below_size (by repeat (first | (with_reducible first | exact HB.out | apply below_alloc | apply pw_below_drewN | apply below_drew1 | refine below_set ?_ GE339.out) | exact HB.out))))
            have n2_ := Aside0.mk (blk_below (g := gb339) (o := .cells #[.int .i64 a0_0, .int .i64 a0_1, .int .i64 a0_2, .int .u64 a0_3, .int .u64 a0_4, .int .u64 a0_5] 37 (0, 0)) (by (with_reducible repeat (first | refine blk_drewN ?_ _ | refine blk_drew ?_ | refine blk_alloc ?_ _)); exact BK339.out) hb)
            have n3_ := Aside0.mk (below_step (by repeat (first | (with_reducible first | exact HB.out | apply below_alloc | apply pw_below_drewN | apply below_drew1 | refine below_set ?_ GE339.out) | exact HB.out)) hb)
            clear HO345
            clear BK339
            clear HB
            have HO345 := n0_
            have HO351 := n1_
            have BK339 := n2_
            have HB := n3_
            clear n0_ n1_ n2_ n3_
            clear hb ho18
            refine hK.out _ _ ⟨(blk_cell BK339.out 0).trans rfl, (blk_cell BK339.out 1).trans rfl, (blk_cell BK339.out 2).trans rfl, (blk_cell BK339.out 3).trans rfl, (blk_cell BK339.out 4).trans rfl, (blk_cell BK339.out 5).trans rfl⟩ (fun hHeld => ?_)
            clear hK K
            refine norm_ (a' := ?_) ?_ ?_
            rotate_left
            ·show Act.put _ (some 24) _ = _
             simp only [Act.put, List.setIfInBounds_toArray, List.set_cons_zero, List.set_cons_succ, i64_w, i32_w]
             rfl
            exact norm_ (by first | (simp only [putAll, Act.put, List.setIfInBounds_toArray, List.set_cons_zero, List.set_cons_succ]; done) | (simp only [putAll, Act.put, List.setIfInBounds_toArray, List.set_cons_zero, List.set_cons_succ]; rfl)) (hJ7_10 (v344, v350) _ ⟨hHeld, (by (with_reducible repeat (first | apply Kd.R_alloc | apply Kd.R_drewN | apply Kd.R_drew)); exact Kd.R_mono HO345.out (fun _ hk => hk.2)), (by (with_reducible repeat (first | apply Kd.R_alloc | apply Kd.R_drewN | apply Kd.R_drew)); exact Kd.R_mono HO351.out (fun _ hk => hk.2)), (by (with_reducible repeat (first | refine blk_drewN ?_ _ | refine blk_drew ?_ | refine blk_alloc ?_ _)); exact BK339.out), (by repeat (first | (with_reducible first | exact HB.out | apply below_alloc | apply pw_below_drewN | apply below_drew1 | refine below_set ?_ GE339.out) | exact HB.out))⟩)
         ·skip
          rintro v341 w15 ⟨hS_, h0_, h1_, h2_⟩
          have n0_ : Aside0 (Kd.S (Kd.slice 5 (Kd.int .u8)) 42 w15 w.heap.size (fun _ => True) v341 t340) := ⟨h0_⟩
          have n1_ : Aside0 (w15.heap[gb339]? = some (.cells #[.int .i64 a0_0, .int .i64 a0_1, .int .i64 a0_2, .int .u64 a0_3, .int .u64 a0_4, .int .u64 a0_5] 37 (0, 0))) := ⟨h1_⟩
          have n2_ : Aside0 (Below w.heap.size w w15) := ⟨h2_⟩
          clear BK339
          clear HB
          clear h0_ h1_ h2_
          have HO342 := n0_
          have BK339 := n1_
          have HB := n2_
          clear n0_ n1_ n2_
          have hHeld : w15.cell? ⟨gb339, 0, none⟩ = some (.int .i64 a0_0) ∧ w15.cell? ⟨gb339, 1, none⟩ = some (.int .i64 a0_1) ∧ w15.cell? ⟨gb339, 2, none⟩ = some (.int .i64 a0_2) ∧ w15.cell? ⟨gb339, 3, none⟩ = some (.int .u64 a0_3) ∧ w15.cell? ⟨gb339, 4, none⟩ = some (.int .u64 a0_4) ∧ w15.cell? ⟨gb339, 5, none⟩ = some (.int .u64 a0_5) := hS_
          refine norm_ (a' := ?_) ?_ ?_
          rotate_left
          ·simp only [putAll, Act.put, List.setIfInBounds_toArray, List.set_cons_zero, List.set_cons_succ]
           rfl
          refine two_ (i := 7) (j := 10) (Ni := some 21) (Nj := some 24) #[true, true, true, true, true, true, true, true, true, false, false, true, false, false, false, false, false, false, false] #[true, true, true, true, true, true, true, false, true, false, true, true, false, false, false, false, false, false, false] rfl rfl rfl rfl (two_of HT_.out (by kernel_rfl)) (by decide) (by decide) (fun K hK => ?_) (fun K hK => ?_)
          ·skip
           refine Kd.R_lit_step (Kd.int .u8) _ 5 ?hg (N := 21) ?hd (xs := ([] : List Int)) (inner := []) (ok := fun _ => True) (okp := fun _ => True) ?hr ?hp (fun _ hk => hk) trivial (Below.refl _ _) (Nat.le_refl _) (by simp) ?_; (case hd => rfl); (case hg => rfl); (case hr => first | (go_simp; done) | (go_simp; rfl)); (case hp => exact (Reps.none _ _))
           intro v344 w16 ho17 hb hg_ hnew_
           clear hg_ hnew_
           (first | rw [← Ny343.out] at ho17 | (simp only [Int.reduceToNat] at ho17; rw [← Ny343.out] at ho17))
           have n0_ := Aside0.mk (Kd.S_elder' (by (with_reducible repeat (first | apply Kd.S_alloc | apply Kd.S_drewN | apply Kd.S_drew)); exact HO342.out) (Kd.R_base ho17) hb)
           have n1_ := Aside0.mk (Kd.R_lower ho17 (below_size (by repeat (first | (with_reducible first | exact HB.out | apply below_alloc | apply pw_below_drewN | apply below_drew1 | refine below_set ?_ GE339.out) | exact HB.out))))
           have n2_ := Aside0.mk (blk_below (g := gb339) (o := .cells #[.int .i64 a0_0, .int .i64 a0_1, .int .i64 a0_2, .int .u64 a0_3, .int .u64 a0_4, .int .u64 a0_5] 37 (0, 0)) (by (with_reducible repeat (first | refine blk_drewN ?_ _ | refine blk_drew ?_ | refine blk_alloc ?_ _)); exact BK339.out) hb)
           have n3_ := Aside0.mk (below_step (by repeat (first | (with_reducible first | exact HB.out | apply below_alloc | apply pw_below_drewN | apply below_drew1 | refine below_set ?_ GE339.out) | exact HB.out)) hb)
           clear HO342
           clear BK339
           clear HB
           have HO342 := n0_
           have HO345 := n1_
           have BK339 := n2_
           have HB := n3_
           clear n0_ n1_ n2_ n3_
           clear hb ho17
           refine hK.out _ _ ⟨(blk_cell BK339.out 0).trans rfl, (blk_cell BK339.out 1).trans rfl, (blk_cell BK339.out 2).trans rfl, (blk_cell BK339.out 3).trans rfl, (blk_cell BK339.out 4).trans rfl, (blk_cell BK339.out 5).trans rfl⟩ (fun hHeld => ?_)
           clear hK K
           refine norm_ (a' := ?_) ?_ ?_
           rotate_left
           ·show Act.put _ (some 21) _ = _
            simp only [Act.put, List.setIfInBounds_toArray, List.set_cons_zero, List.set_cons_succ, i64_w, i32_w]
            rfl
           exact norm_ (by first | (simp only [putAll, Act.put, List.setIfInBounds_toArray, List.set_cons_zero, List.set_cons_succ]; done) | (simp only [putAll, Act.put, List.setIfInBounds_toArray, List.set_cons_zero, List.set_cons_succ]; rfl)) (hJ6_7 (v341, v344) _ ⟨hHeld, (by (with_reducible repeat (first | apply Kd.S_alloc | apply Kd.S_drewN | apply Kd.S_drew)); exact Kd.S_mono HO342.out (fun _ hk => hk.2)), (by (with_reducible repeat (first | apply Kd.R_alloc | apply Kd.R_drewN | apply Kd.R_drew)); exact HO345.out), (by (with_reducible repeat (first | refine blk_drewN ?_ _ | refine blk_drew ?_ | refine blk_alloc ?_ _)); exact BK339.out), (by repeat (first | (with_reducible first | exact HB.out | apply below_alloc | apply pw_below_drewN | apply below_drew1 | refine below_set ?_ GE339.out) | exact HB.out))⟩)
          ·skip
           refine Kd.R_lit_step (Kd.int .u8) _ 5 ?hg (N := 24) ?hd (xs := ([] : List Int)) (inner := []) (ok := fun _ => True) (okp := fun _ => True) ?hr ?hp (fun _ hk => hk) trivial (Below.refl _ _) (Nat.le_refl _) (by simp) ?_; (case hd => rfl); (case hg => rfl); (case hr => first | (go_simp; done) | (go_simp; rfl)); (case hp => exact (Reps.none _ _))
           intro v350 w16 ho17 hb hg_ hnew_
           clear hg_ hnew_
           (first | rw [← Ny349.out] at ho17 | (simp only [Int.reduceToNat] at ho17; rw [← Ny349.out] at ho17))
           have n0_ := Aside0.mk (Kd.S_elder' (by (with_reducible repeat (first | apply Kd.S_alloc | apply Kd.S_drewN | apply Kd.S_drew)); exact HO342.out) (Kd.R_base ho17) hb)
           have n1_ := Aside0.mk (Kd.R_lower ho17 (below_size (by repeat (first | (with_reducible first | exact HB.out | apply below_alloc | apply pw_below_drewN | apply below_drew1 | refine below_set ?_ GE339.out) | exact HB.out))))
           have n2_ := Aside0.mk (blk_below (g := gb339) (o := .cells #[.int .i64 a0_0, .int .i64 a0_1, .int .i64 a0_2, .int .u64 a0_3, .int .u64 a0_4, .int .u64 a0_5] 37 (0, 0)) (by (with_reducible repeat (first | refine blk_drewN ?_ _ | refine blk_drew ?_ | refine blk_alloc ?_ _)); exact BK339.out) hb)
           have n3_ := Aside0.mk (below_step (by repeat (first | (with_reducible first | exact HB.out | apply below_alloc | apply pw_below_drewN | apply below_drew1 | refine below_set ?_ GE339.out) | exact HB.out)) hb)
           clear HO342
           clear BK339
           clear HB
           have HO342 := n0_
           have HO351 := n1_
           have BK339 := n2_
           have HB := n3_
           clear n0_ n1_ n2_ n3_
           clear hb ho17
           refine hK.out _ _ ⟨(blk_cell BK339.out 0).trans rfl, (blk_cell BK339.out 1).trans rfl, (blk_cell BK339.out 2).trans rfl, (blk_cell BK339.out 3).trans rfl, (blk_cell BK339.out 4).trans rfl, (blk_cell BK339.out 5).trans rfl⟩ (fun hHeld => ?_)
           clear hK K
           refine norm_ (a' := ?_) ?_ ?_
           rotate_left
           ·show Act.put _ (some 24) _ = _
            simp only [Act.put, List.setIfInBounds_toArray, List.set_cons_zero, List.set_cons_succ, i64_w, i32_w]
            rfl
           exact norm_ (by first | (simp only [putAll, Act.put, List.setIfInBounds_toArray, List.set_cons_zero, List.set_cons_succ]; done) | (simp only [putAll, Act.put, List.setIfInBounds_toArray, List.set_cons_zero, List.set_cons_succ]; rfl)) (hJ6_10 (v341, v350) _ ⟨hHeld, (by (with_reducible repeat (first | apply Kd.S_alloc | apply Kd.S_drewN | apply Kd.S_drew)); exact Kd.S_mono HO342.out (fun _ hk => hk.2)), (by (with_reducible repeat (first | apply Kd.R_alloc | apply Kd.R_drewN | apply Kd.R_drew)); exact HO351.out), (by (with_reducible repeat (first | refine blk_drewN ?_ _ | refine blk_drew ?_ | refine blk_alloc ?_ _)); exact BK339.out), (by repeat (first | (with_reducible first | exact HB.out | apply below_alloc | apply pw_below_drewN | apply below_drew1 | refine below_set ?_ GE339.out) | exact HB.out))⟩)
        ·skip
         rintro ⟨v344, v350⟩ w18 ⟨hS_, h0_, h1_, h2_, h3_⟩
         have n0_ : Aside0 (Kd.R (Kd.int .u8) 5 w18 w.heap.size (fun k_ => some k_ ≠ (v350 : Value).ownBlock) v344 y343) := ⟨h0_⟩
         have n1_ : Aside0 (Kd.R (Kd.int .u8) 5 w18 w.heap.size (fun k_ => some k_ ≠ (v344 : Value).ownBlock) v350 y349) := ⟨h1_⟩
         have n2_ : Aside0 (w18.heap[gb339]? = some (.cells #[.int .i64 a0_0, .int .i64 a0_1, .int .i64 a0_2, .int .u64 a0_3, .int .u64 a0_4, .int .u64 a0_5] 37 (0, 0))) := ⟨h2_⟩
         have n3_ : Aside0 (Below w.heap.size w w18) := ⟨h3_⟩
         clear BK339
         clear HB
         clear h0_ h1_ h2_ h3_
         have HO345 := n0_
         have HO351 := n1_
         have BK339 := n2_
         have HB := n3_
         clear n0_ n1_ n2_ n3_
         have hHeld : w18.cell? ⟨gb339, 0, none⟩ = some (.int .i64 a0_0) ∧ w18.cell? ⟨gb339, 1, none⟩ = some (.int .i64 a0_1) ∧ w18.cell? ⟨gb339, 2, none⟩ = some (.int .i64 a0_2) ∧ w18.cell? ⟨gb339, 3, none⟩ = some (.int .u64 a0_3) ∧ w18.cell? ⟨gb339, 4, none⟩ = some (.int .u64 a0_4) ∧ w18.cell? ⟨gb339, 5, none⟩ = some (.int .u64 a0_5) := hS_
         refine norm_ (a' := ?_) ?_ ?_
         rotate_left
         ·simp only [putAll, Act.put, List.setIfInBounds_toArray, List.set_cons_zero, List.set_cons_succ]
          rfl
         refine one_ (i := 6) (N := some 20) #[true, true, true, true, true, true, true, true, true, false, true, true, false, false, false, false, false, false, false] rfl rfl (one_of HT_.out (by kernel_rfl)) (by decide) (fun K hK => ?_)
         refine goes_ Tryd.func70 (by kernel_rfl) rfl #[.slice A3 l3.length c3] (by rfl) rfl rfl (by (try simp only [List.map_toArray, List.map_cons, List.map_nil]); first | done | rfl | (simp only [List.length_drop, List.length_take]; rfl)) ?_
         with_reducible refine (impl_texts.calls k _ _ l3 t340 _ ?side1 ?side2 A7.out).mono ?_
         (case side1 => repeat (first | exact (Kd.C_below HR3.out HB.out) | (with_reducible refine Kd.C_alloc ?_ _) | (with_reducible refine Kd.C_drewN ?_ _) | (with_reducible refine Kd.C_drew ?_)))
         (case side2 => exact HC3.out)
         rintro e w19 ⟨v341, rfl, ho0, hb⟩
         refine ⟨_, rfl, ?_⟩
         have n0_ := Aside0.mk (Kd.R_below (by (with_reducible repeat (first | apply Kd.R_alloc | apply Kd.R_drewN | apply Kd.R_drew)); exact HO345.out) hb)
         have n1_ := Aside0.mk (Kd.R_below (by (with_reducible repeat (first | apply Kd.R_alloc | apply Kd.R_drewN | apply Kd.R_drew)); exact HO351.out) hb)
         have n2_ := Aside0.mk (Kd.S_lower (Kd.S_new' (Kd.S_new' ho0 (Kd.R_lt (by (with_reducible repeat (first | apply Kd.R_alloc | apply Kd.R_drewN | apply Kd.R_drew)); exact HO345.out))) (Kd.R_lt (by (with_reducible repeat (first | apply Kd.R_alloc | apply Kd.R_drewN | apply Kd.R_drew)); exact HO351.out))) (below_size (by repeat (first | (with_reducible first | exact HB.out | apply below_alloc | apply pw_below_drewN | apply below_drew1 | refine below_set ?_ GE339.out) | exact HB.out))))
         have n3_ := Aside0.mk (blk_below (g := gb339) (o := .cells #[.int .i64 a0_0, .int .i64 a0_1, .int .i64 a0_2, .int .u64 a0_3, .int .u64 a0_4, .int .u64 a0_5] 37 (0, 0)) (by (with_reducible repeat (first | refine blk_drewN ?_ _ | refine blk_drew ?_ | refine blk_alloc ?_ _)); exact BK339.out) hb)
         have n4_ := Aside0.mk (below_step (by repeat (first | (with_reducible first | exact HB.out | apply below_alloc | apply pw_below_drewN | apply below_drew1 | refine below_set ?_ GE339.out) | exact HB.out)) hb)
         clear HO345
         clear HO351
         clear BK339
         clear HB
         have HO345 := n0_
         have HO351 := n1_
         have HO342 := n2_
         have BK339 := n3_
         have HB := n4_
         clear n0_ n1_ n2_ n3_ n4_
         (try clear hb)
         (try clear hb2)
         (try clear hk)
         (try clear hi)
         (try clear ho0)
         refine hK.out _ _ ⟨(blk_cell BK339.out 0).trans rfl, (blk_cell BK339.out 1).trans rfl, (blk_cell BK339.out 2).trans rfl, (blk_cell BK339.out 3).trans rfl, (blk_cell BK339.out 4).trans rfl, (blk_cell BK339.out 5).trans rfl⟩ (fun hHeld => ?_)
         clear hK K
         refine norm_ (a' := ?_) ?_ ?_
         rotate_left
         ·show Act.put _ (some 20) _ = _
          simp only [Act.put, List.setIfInBounds_toArray, List.set_cons_zero, List.set_cons_succ, i64_w, i32_w]
          rfl
         exact norm_ (by first | (simp only [putAll, Act.put, List.setIfInBounds_toArray, List.set_cons_zero, List.set_cons_succ]; done) | (simp only [putAll, Act.put, List.setIfInBounds_toArray, List.set_cons_zero, List.set_cons_succ]; rfl)) (hJ6_7_10 (v341, v344, v350) _ ⟨hHeld, (by (with_reducible repeat (first | apply Kd.S_alloc | apply Kd.S_drewN | apply Kd.S_drew)); exact Kd.S_mono HO342.out (fun _ hk => ⟨hk.1.2, hk.2⟩)), (by (with_reducible repeat (first | apply Kd.R_alloc | apply Kd.R_drewN | apply Kd.R_drew)); exact HO345.out), (by (with_reducible repeat (first | apply Kd.R_alloc | apply Kd.R_drewN | apply Kd.R_drew)); exact HO351.out), (by (with_reducible repeat (first | refine blk_drewN ?_ _ | refine blk_drew ?_ | refine blk_alloc ?_ _)); exact BK339.out), (by repeat (first | (with_reducible first | exact HB.out | apply below_alloc | apply pw_below_drewN | apply below_drew1 | refine below_set ?_ GE339.out) | exact HB.out))⟩)
       ·skip
        rintro ⟨v341, v350⟩ w17 ⟨hS_, h0_, h1_, h2_, h3_⟩
        have n0_ : Aside0 (Kd.S (Kd.slice 5 (Kd.int .u8)) 42 w17 w.heap.size (fun k_ => some k_ ≠ (v350 : Value).ownBlock) v341 t340) := ⟨h0_⟩
        have n1_ : Aside0 (Kd.R (Kd.int .u8) 5 w17 w.heap.size (fun _ => True) v350 y349) := ⟨h1_⟩
        have n2_ : Aside0 (w17.heap[gb339]? = some (.cells #[.int .i64 a0_0, .int .i64 a0_1, .int .i64 a0_2, .int .u64 a0_3, .int .u64 a0_4, .int .u64 a0_5] 37 (0, 0))) := ⟨h2_⟩
        have n3_ : Aside0 (Below w.heap.size w w17) := ⟨h3_⟩
        clear BK339
        clear HB
        clear h0_ h1_ h2_ h3_
        have HO342 := n0_
        have HO351 := n1_
        have BK339 := n2_
        have HB := n3_
        clear n0_ n1_ n2_ n3_
        have hHeld : w17.cell? ⟨gb339, 0, none⟩ = some (.int .i64 a0_0) ∧ w17.cell? ⟨gb339, 1, none⟩ = some (.int .i64 a0_1) ∧ w17.cell? ⟨gb339, 2, none⟩ = some (.int .i64 a0_2) ∧ w17.cell? ⟨gb339, 3, none⟩ = some (.int .u64 a0_3) ∧ w17.cell? ⟨gb339, 4, none⟩ = some (.int .u64 a0_4) ∧ w17.cell? ⟨gb339, 5, none⟩ = some (.int .u64 a0_5) := hS_
        refine norm_ (a' := ?_) ?_ ?_
        rotate_left
        ·simp only [putAll, Act.put, List.setIfInBounds_toArray, List.set_cons_zero, List.set_cons_succ]
         rfl
        refine one_ (i := 7) (N := some 21) #[true, true, true, true, true, true, true, true, true, false, true, true, false, false, false, false, false, false, false] rfl rfl (one_of HT_.out (by kernel_rfl)) (by decide) (fun K hK => ?_)
        refine Kd.R_lit_step (Kd.int .u8) _ 5 ?hg (N := 21) ?hd (xs := ([] : List Int)) (inner := []) (ok := fun _ => True) (okp := fun _ => True) ?hr ?hp (fun _ hk => hk) trivial (Below.refl _ _) (Nat.le_refl _) (by simp) ?_; (case hd => rfl); (case hg => rfl); (case hr => first | (go_simp; done) | (go_simp; rfl)); (case hp => exact (Reps.none _ _))
        intro v344 w18 ho19 hb hg_ hnew_
        clear hg_ hnew_
        (first | rw [← Ny343.out] at ho19 | (simp only [Int.reduceToNat] at ho19; rw [← Ny343.out] at ho19))
        have n0_ := Aside0.mk (Kd.S_elder' (by (with_reducible repeat (first | apply Kd.S_alloc | apply Kd.S_drewN | apply Kd.S_drew)); exact HO342.out) (Kd.R_base ho19) hb)
        have n1_ := Aside0.mk (Kd.R_elder' (by (with_reducible repeat (first | apply Kd.R_alloc | apply Kd.R_drewN | apply Kd.R_drew)); exact HO351.out) (Kd.R_base ho19) hb)
        have n2_ := Aside0.mk (Kd.R_lower (Kd.R_new' ho19 (Kd.R_lt (by (with_reducible repeat (first | apply Kd.R_alloc | apply Kd.R_drewN | apply Kd.R_drew)); exact HO351.out))) (below_size (by repeat (first | (with_reducible first | exact HB.out | apply below_alloc | apply pw_below_drewN | apply below_drew1 | refine below_set ?_ GE339.out) | exact HB.out))))
        have n3_ := Aside0.mk (blk_below (g := gb339) (o := .cells #[.int .i64 a0_0, .int .i64 a0_1, .int .i64 a0_2, .int .u64 a0_3, .int .u64 a0_4, .int .u64 a0_5] 37 (0, 0)) (by (with_reducible repeat (first | refine blk_drewN ?_ _ | refine blk_drew ?_ | refine blk_alloc ?_ _)); exact BK339.out) hb)
        have n4_ := Aside0.mk (below_step (by repeat (first | (with_reducible first | exact HB.out | apply below_alloc | apply pw_below_drewN | apply below_drew1 | refine below_set ?_ GE339.out) | exact HB.out)) hb)
        clear HO342
        clear HO351
        clear BK339
        clear HB
        have HO342 := n0_
        have HO351 := n1_
        have HO345 := n2_
        have BK339 := n3_
        have HB := n4_
        clear n0_ n1_ n2_ n3_ n4_
        clear hb ho19
        refine hK.out _ _ ⟨(blk_cell BK339.out 0).trans rfl, (blk_cell BK339.out 1).trans rfl, (blk_cell BK339.out 2).trans rfl, (blk_cell BK339.out 3).trans rfl, (blk_cell BK339.out 4).trans rfl, (blk_cell BK339.out 5).trans rfl⟩ (fun hHeld => ?_)
        clear hK K
        refine norm_ (a' := ?_) ?_ ?_
        rotate_left
        ·show Act.put _ (some 21) _ = _
         simp only [Act.put, List.setIfInBounds_toArray, List.set_cons_zero, List.set_cons_succ, i64_w, i32_w]
         rfl
        exact norm_ (by first | (simp only [putAll, Act.put, List.setIfInBounds_toArray, List.set_cons_zero, List.set_cons_succ]; done) | (simp only [putAll, Act.put, List.setIfInBounds_toArray, List.set_cons_zero, List.set_cons_succ]; rfl)) (hJ6_7_10 (v341, v344, v350) _ ⟨hHeld, (by (with_reducible repeat (first | apply Kd.S_alloc | apply Kd.S_drewN | apply Kd.S_drew)); exact Kd.S_mono HO342.out (fun _ hk => ⟨hk.2, hk.1⟩)), (by (with_reducible repeat (first | apply Kd.R_alloc | apply Kd.R_drewN | apply Kd.R_drew)); exact Kd.R_mono HO345.out (fun _ hk => hk.2)), (by (with_reducible repeat (first | apply Kd.R_alloc | apply Kd.R_drewN | apply Kd.R_drew)); exact Kd.R_mono HO351.out (fun _ hk => hk.2)), (by (with_reducible repeat (first | refine blk_drewN ?_ _ | refine blk_drew ?_ | refine blk_alloc ?_ _)); exact BK339.out), (by repeat (first | (with_reducible first | exact HB.out | apply below_alloc | apply pw_below_drewN | apply below_drew1 | refine below_set ?_ GE339.out) | exact HB.out))⟩)
      ·skip
       rintro ⟨v341, v344⟩ w17 ⟨hS_, h0_, h1_, h2_, h3_⟩
       have n0_ : Aside0 (Kd.S (Kd.slice 5 (Kd.int .u8)) 42 w17 w.heap.size (fun k_ => some k_ ≠ (v344 : Value).ownBlock) v341 t340) := ⟨h0_⟩
       have n1_ : Aside0 (Kd.R (Kd.int .u8) 5 w17 w.heap.size (fun _ => True) v344 y343) := ⟨h1_⟩
       have n2_ : Aside0 (w17.heap[gb339]? = some (.cells #[.int .i64 a0_0, .int .i64 a0_1, .int .i64 a0_2, .int .u64 a0_3, .int .u64 a0_4, .int .u64 a0_5] 37 (0, 0))) := ⟨h2_⟩
       have n3_ : Aside0 (Below w.heap.size w w17) := ⟨h3_⟩
       clear BK339
       clear HB
       clear h0_ h1_ h2_ h3_
       have HO342 := n0_
       have HO345 := n1_
       have BK339 := n2_
       have HB := n3_
       clear n0_ n1_ n2_ n3_
       have hHeld : w17.cell? ⟨gb339, 0, none⟩ = some (.int .i64 a0_0) ∧ w17.cell? ⟨gb339, 1, none⟩ = some (.int .i64 a0_1) ∧ w17.cell? ⟨gb339, 2, none⟩ = some (.int .i64 a0_2) ∧ w17.cell? ⟨gb339, 3, none⟩ = some (.int .u64 a0_3) ∧ w17.cell? ⟨gb339, 4, none⟩ = some (.int .u64 a0_4) ∧ w17.cell? ⟨gb339, 5, none⟩ = some (.int .u64 a0_5) := hS_
       refine norm_ (a' := ?_) ?_ ?_
       rotate_left
       ·simp only [putAll, Act.put, List.setIfInBounds_toArray, List.set_cons_zero, List.set_cons_succ]
        rfl
       refine two_ (i := 9) (j := 10) (Ni := some 23) (Nj := some 24) #[true, true, true, true, true, true, true, true, true, true, false, true, false, false, false, false, false, false, false] #[true, true, true, true, true, true, true, true, true, false, true, true, false, false, false, false, false, false, false] rfl rfl rfl rfl (two_of HT_.out (by kernel_rfl)) (by decide) (by decide) (fun K hK => ?_) (fun K hK => ?_)
       ·skip
        refine Kd.R_append_rows_step (Kd.int .u8) (w0 := w) w.heap.size (by rfl) (.tmp 21) (.tmp 22) 42 5 (.int .u8 0) 1 rfl Tryd.underlying42 info5 rfl (by decide) (by omega) v344 y343 l4 _ _ _ (fun _ => True) (fun _ => False) rfl rfl ?aO ?aR (fun _ _ h => h) (fun _ h => h.elim) ?aF ?aB ?aS ?aL ?_
        (case aR => repeat (first | exact (Kd.C_below HR4.out HB.out) | (with_reducible refine Kd.C_alloc ?_ _) | (with_reducible refine Kd.C_drewN ?_ _) | (with_reducible refine Kd.C_drew ?_)))
        (case aB => exact (by repeat (first | (with_reducible first | exact HB.out | apply below_alloc | apply pw_below_drewN | apply below_drew1 | refine below_set ?_ GE339.out) | exact HB.out)))
        (case aF => exact (fun _ _ => trivial))
        (case aO => exact (by (with_reducible repeat (first | apply Kd.R_alloc | apply Kd.R_drewN | apply Kd.R_drew)); exact HO345.out))
        (case aS => exact (below_size (by repeat (first | (with_reducible first | exact HB.out | apply below_alloc | apply pw_below_drewN | apply below_drew1 | refine below_set ?_ GE339.out) | exact HB.out))))
        (case aL => have := LMc8.out; omega)
        intro v347 w18 ho hb hg hat
        rw [← Ny346.out] at ho
        have n0_ := Aside0.mk (blk_grown (g := gb339) (o := .cells #[.int .i64 a0_0, .int .i64 a0_1, .int .i64 a0_2, .int .u64 a0_3, .int .u64 a0_4, .int .u64 a0_5] 37 (0, 0)) (by (with_reducible repeat (first | refine blk_drewN ?_ _ | refine blk_drew ?_ | refine blk_alloc ?_ _)); exact BK339.out) hg (Kd.R_ne HO345.out BK339.out (by decide)))
        have n1_ := Aside0.mk (Kd.S_after (ok := (fun _ => True)) (by (with_reducible repeat (first | apply Kd.S_alloc | apply Kd.S_drewN | apply Kd.S_drew)); exact Kd.S_mono HO342.out (fun _ hk => ⟨trivial, hk⟩)) hg hat)
        have n2_ := Aside0.mk (hb)
        have n3_ := Aside0.mk (ho)
        clear BK339
        clear HO342
        clear HB
        clear HO345
        have BK339 := n0_
        have HO342 := n1_
        have HB := n2_
        have HO348 := n3_
        clear n0_ n1_ n2_ n3_
        clear ho hb hg hat
        refine hK.out _ _ ⟨(blk_cell BK339.out 0).trans rfl, (blk_cell BK339.out 1).trans rfl, (blk_cell BK339.out 2).trans rfl, (blk_cell BK339.out 3).trans rfl, (blk_cell BK339.out 4).trans rfl, (blk_cell BK339.out 5).trans rfl⟩ (fun hHeld => ?_)
        clear hK K
        refine norm_ (a' := ?_) ?_ ?_
        rotate_left
        ·show Act.put _ (some 23) _ = _
         simp only [Act.put, List.setIfInBounds_toArray, List.set_cons_zero, List.set_cons_succ, i64_w, i32_w]
         rfl
        exact norm_ (by first | (simp only [putAll, Act.put, List.setIfInBounds_toArray, List.set_cons_zero, List.set_cons_succ]; done) | (simp only [putAll, Act.put, List.setIfInBounds_toArray, List.set_cons_zero, List.set_cons_succ]; rfl)) (hJ6_7_9 (v341, v344, v347) _ ⟨hHeld, (by (with_reducible repeat (first | apply Kd.S_alloc | apply Kd.S_drewN | apply Kd.S_drew)); exact Kd.S_mono HO342.out (fun _ hk => hk.2)), (by (with_reducible repeat (first | apply Kd.R_alloc | apply Kd.R_drewN | apply Kd.R_drew)); exact HO348.out), (by (with_reducible repeat (first | refine blk_drewN ?_ _ | refine blk_drew ?_ | refine blk_alloc ?_ _)); exact BK339.out), (by repeat (first | (with_reducible first | exact HB.out | apply below_alloc | apply pw_below_drewN | apply below_drew1 | refine below_set ?_ GE339.out) | exact HB.out))⟩)
       ·skip
        refine Kd.R_lit_step (Kd.int .u8) _ 5 ?hg (N := 24) ?hd (xs := ([] : List Int)) (inner := []) (ok := fun _ => True) (okp := fun _ => True) ?hr ?hp (fun _ hk => hk) trivial (Below.refl _ _) (Nat.le_refl _) (by simp) ?_; (case hd => rfl); (case hg => rfl); (case hr => first | (go_simp; done) | (go_simp; rfl)); (case hp => exact (Reps.none _ _))
        intro v350 w18 ho19 hb hg_ hnew_
        clear hg_ hnew_
        (first | rw [← Ny349.out] at ho19 | (simp only [Int.reduceToNat] at ho19; rw [← Ny349.out] at ho19))
        have n0_ := Aside0.mk (Kd.S_elder' (by (with_reducible repeat (first | apply Kd.S_alloc | apply Kd.S_drewN | apply Kd.S_drew)); exact HO342.out) (Kd.R_base ho19) hb)
        have n1_ := Aside0.mk (Kd.R_elder' (by (with_reducible repeat (first | apply Kd.R_alloc | apply Kd.R_drewN | apply Kd.R_drew)); exact HO345.out) (Kd.R_base ho19) hb)
        have n2_ := Aside0.mk (Kd.R_lower (Kd.R_new' ho19 (Kd.R_lt (by (with_reducible repeat (first | apply Kd.R_alloc | apply Kd.R_drewN | apply Kd.R_drew)); exact HO345.out))) (below_size (by repeat (first | (with_reducible first | exact HB.out | apply below_alloc | apply pw_below_drewN | apply below_drew1 | refine below_set ?_ GE339.out) | exact HB.out))))
        have n3_ := Aside0.mk (blk_below (g := gb339) (o := .cells #[.int .i64 a0_0, .int .i64 a0_1, .int .i64 a0_2, .int .u64 a0_3, .int .u64 a0_4, .int .u64 a0_5] 37 (0, 0)) (by (with_reducible repeat (first | refine blk_drewN ?_ _ | refine blk_drew ?_ | refine blk_alloc ?_ _)); exact BK339.out) hb)
        have n4_ := Aside0.mk (below_step (by repeat (first | (with_reducible first | exact HB.out | apply below_alloc | apply pw_below_drewN | apply below_drew1 | refine below_set ?_ GE339.out) | exact HB.out)) hb)
        clear HO342
        clear HO345
        clear BK339
        clear HB
        have HO342 := n0_
        have HO345 := n1_
        have HO351 := n2_
        have BK339 := n3_
        have HB := n4_
        clear n0_ n1_ n2_ n3_ n4_
        clear hb ho19
        refine hK.out _ _ ⟨(blk_cell BK339.out 0).trans rfl, (blk_cell BK339.out 1).trans rfl, (blk_cell BK339.out 2).trans rfl, (blk_cell BK339.out 3).trans rfl, (blk_cell BK339.out 4).trans rfl, (blk_cell BK339.out 5).trans rfl⟩ (fun hHeld => ?_)
        clear hK K
        refine norm_ (a' := ?_) ?_ ?_
        rotate_left
        ·show Act.put _ (some 24) _ = _
         simp only [Act.put, List.setIfInBounds_toArray, List.set_cons_zero, List.set_cons_succ, i64_w, i32_w]
         rfl
        exact norm_ (by first | (simp only [putAll, Act.put, List.setIfInBounds_toArray, List.set_cons_zero, List.set_cons_succ]; done) | (simp only [putAll, Act.put, List.setIfInBounds_toArray, List.set_cons_zero, List.set_cons_succ]; rfl)) (hJ6_7_10 (v341, v344, v350) _ ⟨hHeld, (by (with_reducible repeat (first | apply Kd.S_alloc | apply Kd.S_drewN | apply Kd.S_drew)); exact HO342.out), (by (with_reducible repeat (first | apply Kd.R_alloc | apply Kd.R_drewN | apply Kd.R_drew)); exact Kd.R_mono HO345.out (fun _ hk => hk.2)), (by (with_reducible repeat (first | apply Kd.R_alloc | apply Kd.R_drewN | apply Kd.R_drew)); exact Kd.R_mono HO351.out (fun _ hk => hk.2)), (by (with_reducible repeat (first | refine blk_drewN ?_ _ | refine blk_drew ?_ | refine blk_alloc ?_ _)); exact BK339.out), (by repeat (first | (with_reducible first | exact HB.out | apply below_alloc | apply pw_below_drewN | apply below_drew1 | refine below_set ?_ GE339.out) | exact HB.out))⟩)
     ·skip
      rintro ⟨v341, v344, v350⟩ w19 ⟨hS_, h0_, h1_, h2_, h3_, h4_⟩
      have n0_ : Aside0 (Kd.S (Kd.slice 5 (Kd.int .u8)) 42 w19 w.heap.size (fun k_ => some k_ ≠ (v344 : Value).ownBlock ∧ some k_ ≠ (v350 : Value).ownBlock) v341 t340) := ⟨h0_⟩
      have n1_ : Aside0 (Kd.R (Kd.int .u8) 5 w19 w.heap.size (fun k_ => some k_ ≠ (v350 : Value).ownBlock) v344 y343) := ⟨h1_⟩
      have n2_ : Aside0 (Kd.R (Kd.int .u8) 5 w19 w.heap.size (fun k_ => some k_ ≠ (v344 : Value).ownBlock) v350 y349) := ⟨h2_⟩
      have n3_ : Aside0 (w19.heap[gb339]? = some (.cells #[.int .i64 a0_0, .int .i64 a0_1, .int .i64 a0_2, .int .u64 a0_3, .int .u64 a0_4, .int .u64 a0_5] 37 (0, 0))) := ⟨h3_⟩
      have n4_ : Aside0 (Below w.heap.size w w19) := ⟨h4_⟩
      clear BK339
      clear HB
      clear h0_ h1_ h2_ h3_ h4_
      have HO342 := n0_
      have HO345 := n1_
      have HO351 := n2_
      have BK339 := n3_
      have HB := n4_
      clear n0_ n1_ n2_ n3_ n4_
      have hHeld : w19.cell? ⟨gb339, 0, none⟩ = some (.int .i64 a0_0) ∧ w19.cell? ⟨gb339, 1, none⟩ = some (.int .i64 a0_1) ∧ w19.cell? ⟨gb339, 2, none⟩ = some (.int .i64 a0_2) ∧ w19.cell? ⟨gb339, 3, none⟩ = some (.int .u64 a0_3) ∧ w19.cell? ⟨gb339, 4, none⟩ = some (.int .u64 a0_4) ∧ w19.cell? ⟨gb339, 5, none⟩ = some (.int .u64 a0_5) := hS_
      refine norm_ (a' := ?_) ?_ ?_
      rotate_left
      ·simp only [putAll, Act.put, List.setIfInBounds_toArray, List.set_cons_zero, List.set_cons_succ]
       rfl
      refine one_ (i := 9) (N := some 23) #[true, true, true, true, true, true, true, true, true, true, true, true, false, false, false, false, false, false, false] rfl rfl (one_of HT_.out (by kernel_rfl)) (by decide) (fun K hK => ?_)
      refine Kd.R_append_rows_step (Kd.int .u8) (w0 := w) w.heap.size (by rfl) (.tmp 21) (.tmp 22) 42 5 (.int .u8 0) 1 rfl Tryd.underlying42 info5 rfl (by decide) (by omega) v344 y343 l4 _ _ _ (fun k_ => some k_ ≠ (v350 : Value).ownBlock) (fun _ => False) rfl rfl ?aO ?aR (fun _ _ h => h) (fun _ h => h.elim) ?aF ?aB ?aS ?aL ?_
      (case aR => repeat (first | exact (Kd.C_below HR4.out HB.out) | (with_reducible refine Kd.C_alloc ?_ _) | (with_reducible refine Kd.C_drewN ?_ _) | (with_reducible refine Kd.C_drew ?_)))
      (case aB => exact (by repeat (first | (with_reducible first | exact HB.out | apply below_alloc | apply pw_below_drewN | apply below_drew1 | refine below_set ?_ GE339.out) | exact HB.out)))
      (case aF => exact (fun k_ hk => Kd.fresh' (Kd.R_lt (by (with_reducible repeat (first | apply Kd.R_alloc | apply Kd.R_drewN | apply Kd.R_drew)); exact HO351.out)) k_ hk))
      (case aO => exact (by (with_reducible repeat (first | apply Kd.R_alloc | apply Kd.R_drewN | apply Kd.R_drew)); exact HO345.out))
      (case aS => exact (below_size (by repeat (first | (with_reducible first | exact HB.out | apply below_alloc | apply pw_below_drewN | apply below_drew1 | refine below_set ?_ GE339.out) | exact HB.out))))
      (case aL => have := LMc8.out; omega)
      intro v347 w20 ho hb hg hat
      rw [← Ny346.out] at ho
      have n0_ := Aside0.mk (blk_grown (g := gb339) (o := .cells #[.int .i64 a0_0, .int .i64 a0_1, .int .i64 a0_2, .int .u64 a0_3, .int .u64 a0_4, .int .u64 a0_5] 37 (0, 0)) (by (with_reducible repeat (first | refine blk_drewN ?_ _ | refine blk_drew ?_ | refine blk_alloc ?_ _)); exact BK339.out) hg (Kd.R_ne HO345.out BK339.out (by decide)))
      have n1_ := Aside0.mk (Kd.S_after (ok := (fun k_ => some k_ ≠ (v350 : Value).ownBlock)) (by (with_reducible repeat (first | apply Kd.S_alloc | apply Kd.S_drewN | apply Kd.S_drew)); exact Kd.S_mono HO342.out (fun _ hk => ⟨hk.2, hk.1⟩)) hg hat)
      have n2_ := Aside0.mk (Kd.R_after (ok := (fun _ => True)) (by (with_reducible repeat (first | apply Kd.R_alloc | apply Kd.R_drewN | apply Kd.R_drew)); exact Kd.R_mono HO351.out (fun _ hk => ⟨trivial, hk⟩)) hg hat)
      have n3_ := Aside0.mk (hb)
      have n4_ := Aside0.mk (ho)
      clear BK339
      clear HO342
      clear HO351
      clear HB
      clear HO345
      have BK339 := n0_
      have HO342 := n1_
      have HO351 := n2_
      have HB := n3_
      have HO348 := n4_
      clear n0_ n1_ n2_ n3_ n4_
      clear ho hb hg hat
      refine hK.out _ _ ⟨(blk_cell BK339.out 0).trans rfl, (blk_cell BK339.out 1).trans rfl, (blk_cell BK339.out 2).trans rfl, (blk_cell BK339.out 3).trans rfl, (blk_cell BK339.out 4).trans rfl, (blk_cell BK339.out 5).trans rfl⟩ (fun hHeld => ?_)
      clear hK K
      refine norm_ (a' := ?_) ?_ ?_
      rotate_left
      ·show Act.put _ (some 23) _ = _
       simp only [Act.put, List.setIfInBounds_toArray, List.set_cons_zero, List.set_cons_succ, i64_w, i32_w]
       rfl
      exact norm_ (by first | (simp only [putAll, Act.put, List.setIfInBounds_toArray, List.set_cons_zero, List.set_cons_succ]; done) | (simp only [putAll, Act.put, List.setIfInBounds_toArray, List.set_cons_zero, List.set_cons_succ]; rfl)) (hJ6_7_9_10 (v341, v344, v347, v350) _ ⟨hHeld, (by (with_reducible repeat (first | apply Kd.S_alloc | apply Kd.S_drewN | apply Kd.S_drew)); exact Kd.S_mono HO342.out (fun _ hk => ⟨hk.2, hk.1⟩)), (by (with_reducible repeat (first | apply Kd.R_alloc | apply Kd.R_drewN | apply Kd.R_drew)); exact HO348.out), (by (with_reducible repeat (first | apply Kd.R_alloc | apply Kd.R_drewN | apply Kd.R_drew)); exact Kd.R_mono HO351.out (fun _ hk => hk.2)), (by (with_reducible repeat (first | refine blk_drewN ?_ _ | refine blk_drew ?_ | refine blk_alloc ?_ _)); exact BK339.out), (by repeat (first | (with_reducible first | exact HB.out | apply below_alloc | apply pw_below_drewN | apply below_drew1 | refine below_set ?_ GE339.out) | exact HB.out))⟩)
    ·skip
     rintro ⟨v341, v344, v347⟩ w18 ⟨hS_, h0_, h1_, h2_, h3_⟩
     have n0_ : Aside0 (Kd.S (Kd.slice 5 (Kd.int .u8)) 42 w18 w.heap.size (fun k_ => some k_ ≠ (v347 : Value).ownBlock) v341 t340) := ⟨h0_⟩
     have n1_ : Aside0 (Kd.R (Kd.int .u8) 5 w18 w.heap.size (fun _ => True) v347 y346) := ⟨h1_⟩
     have n2_ : Aside0 (w18.heap[gb339]? = some (.cells #[.int .i64 a0_0, .int .i64 a0_1, .int .i64 a0_2, .int .u64 a0_3, .int .u64 a0_4, .int .u64 a0_5] 37 (0, 0))) := ⟨h2_⟩
     have n3_ : Aside0 (Below w.heap.size w w18) := ⟨h3_⟩
     clear BK339
     clear HB
     clear h0_ h1_ h2_ h3_
     have HO342 := n0_
     have HO348 := n1_
     have BK339 := n2_
     have HB := n3_
     clear n0_ n1_ n2_ n3_
     have hHeld : w18.cell? ⟨gb339, 0, none⟩ = some (.int .i64 a0_0) ∧ w18.cell? ⟨gb339, 1, none⟩ = some (.int .i64 a0_1) ∧ w18.cell? ⟨gb339, 2, none⟩ = some (.int .i64 a0_2) ∧ w18.cell? ⟨gb339, 3, none⟩ = some (.int .u64 a0_3) ∧ w18.cell? ⟨gb339, 4, none⟩ = some (.int .u64 a0_4) ∧ w18.cell? ⟨gb339, 5, none⟩ = some (.int .u64 a0_5) := hS_
     refine norm_ (a' := ?_) ?_ ?_
     rotate_left
     ·simp only [putAll, Act.put, List.setIfInBounds_toArray, List.set_cons_zero, List.set_cons_succ]
      rfl
     refine one_ (i := 10) (N := some 24) #[true, true, true, true, true, true, true, true, true, true, true, true, false, false, false, false, false, false, false] rfl rfl (one_of HT_.out (by kernel_rfl)) (by decide) (fun K hK => ?_)
     refine Kd.R_lit_step (Kd.int .u8) _ 5 ?hg (N := 24) ?hd (xs := ([] : List Int)) (inner := []) (ok := fun _ => True) (okp := fun _ => True) ?hr ?hp (fun _ hk => hk) trivial (Below.refl _ _) (Nat.le_refl _) (by simp) ?_; (case hd => rfl); (case hg => rfl); (case hr => first | (go_simp; done) | (go_simp; rfl)); (case hp => exact (Reps.none _ _))
     intro v350 w19 ho20 hb hg_ hnew_
     clear hg_ hnew_
     (first | rw [← Ny349.out] at ho20 | (simp only [Int.reduceToNat] at ho20; rw [← Ny349.out] at ho20))
     have n0_ := Aside0.mk (Kd.S_elder' (by (with_reducible repeat (first | apply Kd.S_alloc | apply Kd.S_drewN | apply Kd.S_drew)); exact HO342.out) (Kd.R_base ho20) hb)
     have n1_ := Aside0.mk (Kd.R_elder' (by (with_reducible repeat (first | apply Kd.R_alloc | apply Kd.R_drewN | apply Kd.R_drew)); exact HO348.out) (Kd.R_base ho20) hb)
     have n2_ := Aside0.mk (Kd.R_lower (Kd.R_new' ho20 (Kd.R_lt (by (with_reducible repeat (first | apply Kd.R_alloc | apply Kd.R_drewN | apply Kd.R_drew)); exact HO348.out))) (below_size (by repeat (first | (with_reducible first | exact HB.out | apply below_alloc | apply pw_below_drewN | apply below_drew1 | refine below_set ?_ GE339.out) | exact HB.out))))
     have n3_ := Aside0.mk (blk_below (g := gb339) (o := .cells #[.int .i64 a0_0, .int .i64 a0_1, .int .i64 a0_2, .int .u64 a0_3, .int .u64 a0_4, .int .u64 a0_5] 37 (0, 0)) (by (with_reducible repeat (first | refine blk_drewN ?_ _ | refine blk_drew ?_ | refine blk_alloc ?_ _)); exact BK339.out) hb)
     have n4_ := Aside0.mk (below_step (by repeat (first | (with_reducible first | exact HB.out | apply below_alloc | apply pw_below_drewN | apply below_drew1 | refine below_set ?_ GE339.out) | exact HB.out)) hb)
     clear HO342
     clear HO348
     clear BK339
     clear HB
     have HO342 := n0_
     have HO348 := n1_
     have HO351 := n2_
     have BK339 := n3_
     have HB := n4_
     clear n0_ n1_ n2_ n3_ n4_
     clear hb ho20
     refine hK.out _ _ ⟨(blk_cell BK339.out 0).trans rfl, (blk_cell BK339.out 1).trans rfl, (blk_cell BK339.out 2).trans rfl, (blk_cell BK339.out 3).trans rfl, (blk_cell BK339.out 4).trans rfl, (blk_cell BK339.out 5).trans rfl⟩ (fun hHeld => ?_)
     clear hK K
     refine norm_ (a' := ?_) ?_ ?_
     rotate_left
     ·show Act.put _ (some 24) _ = _
      simp only [Act.put, List.setIfInBounds_toArray, List.set_cons_zero, List.set_cons_succ, i64_w, i32_w]
      rfl
     exact norm_ (by first | (simp only [putAll, Act.put, List.setIfInBounds_toArray, List.set_cons_zero, List.set_cons_succ]; done) | (simp only [putAll, Act.put, List.setIfInBounds_toArray, List.set_cons_zero, List.set_cons_succ]; rfl)) (hJ6_7_9_10 (v341, v344, v347, v350) _ ⟨hHeld, (by (with_reducible repeat (first | apply Kd.S_alloc | apply Kd.S_drewN | apply Kd.S_drew)); exact HO342.out), (by (with_reducible repeat (first | apply Kd.R_alloc | apply Kd.R_drewN | apply Kd.R_drew)); exact Kd.R_mono HO348.out (fun _ hk => hk.2)), (by (with_reducible repeat (first | apply Kd.R_alloc | apply Kd.R_drewN | apply Kd.R_drew)); exact Kd.R_mono HO351.out (fun _ hk => hk.2)), (by (with_reducible repeat (first | refine blk_drewN ?_ _ | refine blk_drew ?_ | refine blk_alloc ?_ _)); exact BK339.out), (by repeat (first | (with_reducible first | exact HB.out | apply below_alloc | apply pw_below_drewN | apply below_drew1 | refine below_set ?_ GE339.out) | exact HB.out))⟩)
   rintro ⟨v341, v344, v347, v350⟩ w20 ⟨hS_, h0_, h1_, h2_, h3_, h4_⟩
   have n0_ : Aside0 (Kd.S (Kd.slice 5 (Kd.int .u8)) 42 w20 w.heap.size (fun k_ => some k_ ≠ (v347 : Value).ownBlock ∧ some k_ ≠ (v350 : Value).ownBlock) v341 t340) := ⟨h0_⟩
   have n1_ : Aside0 (Kd.R (Kd.int .u8) 5 w20 w.heap.size (fun k_ => some k_ ≠ (v350 : Value).ownBlock) v347 y346) := ⟨h1_⟩
   have n2_ : Aside0 (Kd.R (Kd.int .u8) 5 w20 w.heap.size (fun k_ => some k_ ≠ (v347 : Value).ownBlock) v350 y349) := ⟨h2_⟩
   have n3_ : Aside0 (w20.heap[gb339]? = some (.cells #[.int .i64 a0_0, .int .i64 a0_1, .int .i64 a0_2, .int .u64 a0_3, .int .u64 a0_4, .int .u64 a0_5] 37 (0, 0))) := ⟨h3_⟩
   have n4_ : Aside0 (Below w.heap.size w w20) := ⟨h4_⟩
   clear BK339
   clear HB
   clear h0_ h1_ h2_ h3_ h4_
   have HO342 := n0_
   have HO348 := n1_
   have HO351 := n2_
   have BK339 := n3_
   have HB := n4_
   clear n0_ n1_ n2_ n3_ n4_
   have hHeld : w20.cell? ⟨gb339, 0, none⟩ = some (.int .i64 a0_0) ∧ w20.cell? ⟨gb339, 1, none⟩ = some (.int .i64 a0_1) ∧ w20.cell? ⟨gb339, 2, none⟩ = some (.int .i64 a0_2) ∧ w20.cell? ⟨gb339, 3, none⟩ = some (.int .u64 a0_3) ∧ w20.cell? ⟨gb339, 4, none⟩ = some (.int .u64 a0_4) ∧ w20.cell? ⟨gb339, 5, none⟩ = some (.int .u64 a0_5) := hS_
   refine norm_ (a' := ?_) ?_ ?_
   rotate_left
   ·simp only [putAll, Act.put, List.setIfInBounds_toArray, List.set_cons_zero, List.set_cons_succ]
    rfl
   refine one_ (i := 12) (N := some 26) #[true, true, true, true, true, true, true, true, true, true, true, true, true, false, false, false, false, false, false] rfl rfl (one_of HT_.out (by kernel_rfl)) (by decide) (fun K hK => ?_)
   refine Kd.R_append_rows_step (Kd.int .u8) (w0 := w) w.heap.size (by rfl) (.tmp 24) (.tmp 25) 42 5 (.int .u8 0) 1 rfl Tryd.underlying42 info5 rfl (by decide) (by omega) v350 y349 l5 _ _ _ (fun k_ => some k_ ≠ (v347 : Value).ownBlock) (fun _ => False) rfl rfl ?aO ?aR (fun _ _ h => h) (fun _ h => h.elim) ?aF ?aB ?aS ?aL ?_
   (case aR => repeat (first | exact (Kd.C_below HR5.out HB.out) | (with_reducible refine Kd.C_alloc ?_ _) | (with_reducible refine Kd.C_drewN ?_ _) | (with_reducible refine Kd.C_drew ?_)))
   (case aB => exact (by repeat (first | (with_reducible first | exact HB.out | apply below_alloc | apply pw_below_drewN | apply below_drew1 | refine below_set ?_ GE339.out) | exact HB.out)))
   (case aF => exact (fun k_ hk => Kd.fresh' (Kd.R_lt (by (with_reducible repeat (first | apply Kd.R_alloc | apply Kd.R_drewN | apply Kd.R_drew)); exact HO348.out)) k_ hk))
   (case aO => exact (by (with_reducible repeat (first | apply Kd.R_alloc | apply Kd.R_drewN | apply Kd.R_drew)); exact HO351.out))
   (case aS => exact (below_size (by repeat (first | (with_reducible first | exact HB.out | apply below_alloc | apply pw_below_drewN | apply below_drew1 | refine below_set ?_ GE339.out) | exact HB.out))))
   (case aL => have := LMc9.out; omega)
   intro v353 w21 ho hb hg hat
   rw [← Ny352.out] at ho
   have n0_ := Aside0.mk (blk_grown (g := gb339) (o := .cells #[.int .i64 a0_0, .int .i64 a0_1, .int .i64 a0_2, .int .u64 a0_3, .int .u64 a0_4, .int .u64 a0_5] 37 (0, 0)) (by (with_reducible repeat (first | refine blk_drewN ?_ _ | refine blk_drew ?_ | refine blk_alloc ?_ _)); exact BK339.out) hg (Kd.R_ne HO351.out BK339.out (by decide)))
   have n1_ := Aside0.mk (Kd.S_after (ok := (fun k_ => some k_ ≠ (v347 : Value).ownBlock)) (by (with_reducible repeat (first | apply Kd.S_alloc | apply Kd.S_drewN | apply Kd.S_drew)); exact HO342.out) hg hat)
   have n2_ := Aside0.mk (Kd.R_after (ok := (fun _ => True)) (by (with_reducible repeat (first | apply Kd.R_alloc | apply Kd.R_drewN | apply Kd.R_drew)); exact Kd.R_mono HO348.out (fun _ hk => ⟨trivial, hk⟩)) hg hat)
   have n3_ := Aside0.mk (hb)
   have n4_ := Aside0.mk (ho)
   clear BK339
   clear HO342
   clear HO348
   clear HB
   clear HO351
   have BK339 := n0_
   have HO342 := n1_
   have HO348 := n2_
   have HB := n3_
   have HO354 := n4_
   clear n0_ n1_ n2_ n3_ n4_
   clear ho hb hg hat
   obtain ⟨Ao22, co22, eo22⟩ := Kd.S_slice HO342.out
   (first | subst eo22 | (injection eo22 with f1_ f2_ f3_; have f4_ := f1_.symm; have f5_ := f3_.symm; clear f1_ f2_ f3_; subst f4_; subst f5_))
   obtain ⟨Ao23, co23, eo23⟩ := Kd.R_slice HO348.out
   (first | subst eo23 | (injection eo23 with f1_ f2_ f3_; have f4_ := f1_.symm; have f5_ := f3_.symm; clear f1_ f2_ f3_; subst f4_; subst f5_))
   obtain ⟨Ao24, co24, eo24⟩ := Kd.R_slice HO354.out
   (first | subst eo24 | (injection eo24 with f1_ f2_ f3_; have f4_ := f1_.symm; have f5_ := f3_.symm; clear f1_ f2_ f3_; subst f4_; subst f5_))
   refine hK.out _ _ ⟨(blk_cell BK339.out 0).trans rfl, (blk_cell BK339.out 1).trans rfl, (blk_cell BK339.out 2).trans rfl, (blk_cell BK339.out 3).trans rfl, (blk_cell BK339.out 4).trans rfl, (blk_cell BK339.out 5).trans rfl⟩ (fun hHeld => ?_)
   clear hK K
   refine norm_ (a' := ?_) ?_ ?_
   rotate_left
   ·show Act.put _ (some 26) _ = _
    simp only [Act.put, List.setIfInBounds_toArray, List.set_cons_zero, List.set_cons_succ, i64_w, i32_w]
    rfl
   refine one_ (i := 13) (N := some 27) #[true, true, true, true, true, true, true, true, true, true, true, true, true, true, false, false, false, false, false] rfl rfl (one_of HT_.out (by kernel_rfl)) (by decide) (fun K hK => ?_)
   refine goes_ Tryd.func87 (by kernel_rfl) rfl #[.iface 114 (.agg #[.int .i64 a0_0, .int .i64 a0_1, .int .i64 a0_2, .int .u64 a0_3, .int .u64 a0_4, .int .u64 a0_5]), .int .u64 a1, .int .u64 a2, .slice Ao22 t340.length co22, .slice Ao23 y346.length co23, .slice Ao24 y352.length co24] (by rfl) rfl rfl (by (try simp only [List.map_toArray, List.map_cons, List.map_nil]); first | done | rfl | (simp only [List.length_drop, List.length_take]; rfl)) ?_
   with_reducible refine (proof_VerifyConsistency.calls k a0_0 a0_1 a0_2 a0_3 a0_4 a0_5 a1 a2 (fun k_ => ((some k_ ≠ (.slice Ao23 y346.length co23 : Value).ownBlock ∧ some k_ ≠ (.slice Ao24 y352.length co24 : Value).ownBlock) ∧ k_ ≠ gb339)) _ _ t340 (fun k_ => some k_ = (.slice Ao23 y346.length co23 : Value).ownBlock) _ _ y346 (fun k_ => some k_ = (.slice Ao24 y352.length co24 : Value).ownBlock) _ _ y352 t355 t357 t360 _ ?side4 ?side1 ?side2 ?side3 A10.out).mono ?_
   (case side1 => exact Kd.S_V (Kd.S_types (HO342.out) BK339.out (by decide)))
   (case side2 => exact Kd.R_V (Kd.R_tight rfl (Kd.R_types (Kd.R_apart' (HO348.out) (Kd.S_typed HO342.out) (by decide)) BK339.out (by decide))))
   (case side3 => exact Kd.R_V (Kd.R_tight rfl (Kd.R_types (Kd.R_apart' (HO354.out) (Kd.S_typed HO342.out) (by decide)) BK339.out (by decide))))
   (case side4 => exact GlobT.below hGT (by repeat (first | (with_reducible first | exact HB.out | apply below_alloc | apply pw_below_drewN | apply below_drew1 | refine below_set ?_ GE339.out) | exact HB.out)))
   rintro e w25 ⟨v358, v361, qe356, rfl, ho0, ho1, hb⟩
   refine ⟨_, rfl, ?_⟩
   have n0_ := Aside0.mk (Kd.S_below (by (with_reducible repeat (first | apply Kd.S_alloc | apply Kd.S_drewN | apply Kd.S_drew)); exact HO342.out) hb)
   have n1_ := Aside0.mk (Kd.R_below (by (with_reducible repeat (first | apply Kd.R_alloc | apply Kd.R_drewN | apply Kd.R_drew)); exact HO348.out) hb)
   have n2_ := Aside0.mk (Kd.R_below (by (with_reducible repeat (first | apply Kd.R_alloc | apply Kd.R_drewN | apply Kd.R_drew)); exact HO354.out) hb)
   have n3_ := Aside0.mk (Kd.V_lower (Kd.V_mono (ok' := fun k_ => k_ ≠ gb339) ho0 (fun k_ hk_ => Or.elim hk_ (fun hs_ => Or.elim hs_ (fun hs_ => hs_.2) (fun hs_ => Or.elim hs_ (fun hs_ => ((Kd.R_types (Kd.R_apart' (HO348.out) (Kd.S_typed HO342.out) (by decide)) BK339.out (by decide)).1 k_ hs_.symm).2) (fun hs_ => ((Kd.R_types (Kd.R_apart' (HO354.out) (Kd.S_typed HO342.out) (by decide)) BK339.out (by decide)).1 k_ hs_.symm).2))) (fun hn_ => (Kd.freshB (g := gb339) (o := .cells #[.int .i64 a0_0, .int .i64 a0_1, .int .i64 a0_2, .int .u64 a0_3, .int .u64 a0_4, .int .u64 a0_5] 37 (0, 0)) (by (with_reducible repeat (first | refine blk_drewN ?_ _ | refine blk_drew ?_ | refine blk_alloc ?_ _)); exact BK339.out) k_ hn_)))) (below_size (by repeat (first | (with_reducible first | exact HB.out | apply below_alloc | apply pw_below_drewN | apply below_drew1 | refine below_set ?_ GE339.out) | exact HB.out))))
   have n4_ := Aside0.mk (Kd.V_lower (Kd.V_mono (ok' := fun k_ => k_ ≠ gb339) ho1 (fun k_ hk_ => Or.elim hk_ (fun hs_ => Or.elim hs_ (fun hs_ => hs_.2) (fun hs_ => Or.elim hs_ (fun hs_ => ((Kd.R_types (Kd.R_apart' (HO348.out) (Kd.S_typed HO342.out) (by decide)) BK339.out (by decide)).1 k_ hs_.symm).2) (fun hs_ => ((Kd.R_types (Kd.R_apart' (HO354.out) (Kd.S_typed HO342.out) (by decide)) BK339.out (by decide)).1 k_ hs_.symm).2))) (fun hn_ => (Kd.freshB (g := gb339) (o := .cells #[.int .i64 a0_0, .int .i64 a0_1, .int .i64 a0_2, .int .u64 a0_3, .int .u64 a0_4, .int .u64 a0_5] 37 (0, 0)) (by (with_reducible repeat (first | refine blk_drewN ?_ _ | refine blk_drew ?_ | refine blk_alloc ?_ _)); exact BK339.out) k_ hn_)))) (below_size (by repeat (first | (with_reducible first | exact HB.out | apply below_alloc | apply pw_below_drewN | apply below_drew1 | refine below_set ?_ GE339.out) | exact HB.out))))
   have n5_ := Aside0.mk (blk_below (g := gb339) (o := .cells #[.int .i64 a0_0, .int .i64 a0_1, .int .i64 a0_2, .int .u64 a0_3, .int .u64 a0_4, .int .u64 a0_5] 37 (0, 0)) (by (with_reducible repeat (first | refine blk_drewN ?_ _ | refine blk_drew ?_ | refine blk_alloc ?_ _)); exact BK339.out) hb)
   have n6_ := Aside0.mk (below_step (by repeat (first | (with_reducible first | exact HB.out | apply below_alloc | apply pw_below_drewN | apply below_drew1 | refine below_set ?_ GE339.out) | exact HB.out)) hb)
   clear HO342
   clear HO348
   clear HO354
   clear BK339
   clear HB
   have HO342 := n0_
   have HO348 := n1_
   have HO354 := n2_
   have HO359 := n3_
   have HO362 := n4_
   have BK339 := n5_
   have HB := n6_
   clear n0_ n1_ n2_ n3_ n4_ n5_ n6_
   (try clear hb)
   (try clear hb2)
   (try clear hk)
   (try clear hi)
   (try clear ho0)
   (try clear ho1)
   (try simp only [errW_none, errW_some])
   obtain ⟨Ao26, co26, eo26⟩ := Kd.V_slice HO359.out
   (first | subst eo26 | (injection eo26 with f1_ f2_ f3_; have f4_ := f1_.symm; have f5_ := f3_.symm; clear f1_ f2_ f3_; subst f4_; subst f5_))
   obtain ⟨Ao27, co27, eo27⟩ := Kd.V_slice HO362.out
   (first | subst eo27 | (injection eo27 with f1_ f2_ f3_; have f4_ := f1_.symm; have f5_ := f3_.symm; clear f1_ f2_ f3_; subst f4_; subst f5_))
   refine hK.out _ _ ⟨(blk_cell BK339.out 0).trans rfl, (blk_cell BK339.out 1).trans rfl, (blk_cell BK339.out 2).trans rfl, (blk_cell BK339.out 3).trans rfl, (blk_cell BK339.out 4).trans rfl, (blk_cell BK339.out 5).trans rfl⟩ (fun hHeld => ?_)
   clear hK K
   refine norm_ (a' := ?_) ?_ ?_
   rotate_left
   ·show Act.put _ (some 27) _ = _
    simp only [Act.put, List.setIfInBounds_toArray, List.set_cons_zero, List.set_cons_succ, i64_w, i32_w]
    rfl
   refine one_ (i := 14) (N := some 28) #[true, true, true, true, true, true, true, true, true, true, true, true, true, true, true, false, false, false, false] rfl rfl (one_of HT_.out (by kernel_rfl)) (by decide) (fun K hK => ?_)
   refine goes_ Tryd.func86 (by kernel_rfl) rfl #[errP ((qe356, t355), .slice Ao26 t357.length co26, .slice Ao27 t360.length co27)] (by rfl) rfl rfl (by (try simp only [List.map_toArray, List.map_cons, List.map_nil]); first | done | rfl | (simp only [List.length_drop, List.length_take]; rfl)) ?_
   with_reducible refine (impl_verdict.calls qe356 t355 _ _ t357 _ _ t360 t363 t364 _ ?side1 ?side2 ?side3 ?side4 A11.out).mono ?_
   (case side1 => repeat (first | exact (Kd.V_reads' HO359.out).2.2 | (with_reducible refine Kd.C_alloc ?_ _) | (with_reducible refine Kd.C_drewN ?_ _) | (with_reducible refine Kd.C_drew ?_)))
   (case side2 => exact (Kd.V_reads' HO359.out).2.1)
   (case side3 => repeat (first | exact (Kd.V_reads' HO362.out).2.2 | (with_reducible refine Kd.C_alloc ?_ _) | (with_reducible refine Kd.C_drewN ?_ _) | (with_reducible refine Kd.C_drew ?_)))
   (case side4 => exact (Kd.V_reads' HO362.out).2.1)
   rintro e w28 ⟨v365, rfl, ho0, hb⟩
   refine ⟨_, rfl, ?_⟩
   have n0_ := Aside0.mk (Kd.S_elder' (by (with_reducible repeat (first | apply Kd.S_alloc | apply Kd.S_drewN | apply Kd.S_drew)); exact HO342.out) (Kd.R_base ho0) hb)
   have n1_ := Aside0.mk (Kd.R_elder' (by (with_reducible repeat (first | apply Kd.R_alloc | apply Kd.R_drewN | apply Kd.R_drew)); exact HO348.out) (Kd.R_base ho0) hb)
   have n2_ := Aside0.mk (Kd.R_elder' (by (with_reducible repeat (first | apply Kd.R_alloc | apply Kd.R_drewN | apply Kd.R_drew)); exact HO354.out) (Kd.R_base ho0) hb)
   have n3_ := Aside0.mk (Kd.V_elder' (by (with_reducible repeat (first | apply Kd.V_alloc | apply Kd.V_drewN | apply Kd.V_drew)); exact HO359.out) (Kd.R_base ho0) hb)
   have n4_ := Aside0.mk (Kd.V_elder' (by (with_reducible repeat (first | apply Kd.V_alloc | apply Kd.V_drewN | apply Kd.V_drew)); exact HO362.out) (Kd.R_base ho0) hb)
   have n5_ := Aside0.mk (Kd.R_lower (Kd.R_new' (Kd.R_new' ho0 (Kd.R_lt (by (with_reducible repeat (first | apply Kd.R_alloc | apply Kd.R_drewN | apply Kd.R_drew)); exact HO348.out))) (Kd.R_lt (by (with_reducible repeat (first | apply Kd.R_alloc | apply Kd.R_drewN | apply Kd.R_drew)); exact HO354.out))) (below_size (by repeat (first | (with_reducible first | exact HB.out | apply below_alloc | apply pw_below_drewN | apply below_drew1 | refine below_set ?_ GE339.out) | exact HB.out))))
   have n6_ := Aside0.mk (blk_below (g := gb339) (o := .cells #[.int .i64 a0_0, .int .i64 a0_1, .int .i64 a0_2, .int .u64 a0_3, .int .u64 a0_4, .int .u64 a0_5] 37 (0, 0)) (by (with_reducible repeat (first | refine blk_drewN ?_ _ | refine blk_drew ?_ | refine blk_alloc ?_ _)); exact BK339.out) hb)
   have n7_ := Aside0.mk (below_step (by repeat (first | (with_reducible first | exact HB.out | apply below_alloc | apply pw_below_drewN | apply below_drew1 | refine below_set ?_ GE339.out) | exact HB.out)) hb)
   clear HO342
   clear HO348
   clear HO354
   clear HO359
   clear HO362
   clear BK339
   clear HB
   have HO342 := n0_
   have HO348 := n1_
   have HO354 := n2_
   have HO359 := n3_
   have HO362 := n4_
   have HO366 := n5_
   have BK339 := n6_
   have HB := n7_
   clear n0_ n1_ n2_ n3_ n4_ n5_ n6_ n7_
   (try clear hb)
   (try clear hb2)
   (try clear hk)
   (try clear hi)
   (try clear ho0)
   refine hK.out _ _ ⟨(blk_cell BK339.out 0).trans rfl, (blk_cell BK339.out 1).trans rfl, (blk_cell BK339.out 2).trans rfl, (blk_cell BK339.out 3).trans rfl, (blk_cell BK339.out 4).trans rfl, (blk_cell BK339.out 5).trans rfl⟩ (fun hHeld => ?_)
   clear hK K
   refine norm_ (a' := ?_) ?_ ?_
   rotate_left
   ·show Act.put _ (some 28) _ = _
    simp only [Act.put, List.setIfInBounds_toArray, List.set_cons_zero, List.set_cons_succ, i64_w, i32_w]
    rfl
   refine pure_ (i := 15) (N := some 29) (v := ?_) (a' := ?_) #[true, true, true, true, true, true, true, true, true, true, true, true, true, true, true, true, false, false, false] rfl rfl (any_of HT_.out (by kernel_rfl)) (fun _ _ _ h => h) (Or.inl ⟨by rfl, ?_⟩) ?_ ?_
   rotate_left
   ·intro w'
    go_simp
    with_reducible rfl
   rotate_left
   ·simp only [Act.put, List.setIfInBounds_toArray, List.set_cons_zero, List.set_cons_succ, i64_w, i32_w]
    rfl
   refine pure_ (i := 16) (N := some 30) (v := ?_) (a' := ?_) #[true, true, true, true, true, true, true, true, true, true, true, true, true, true, true, true, true, false, false] rfl rfl (any_of HT_.out (by kernel_rfl)) (fun _ _ _ h => h) (Or.inl ⟨by rfl, ?_⟩) ?_ ?_
   rotate_left
   ·intro w'
    go_simp
    with_reducible rfl
   rotate_left
   ·simp only [Act.put, List.setIfInBounds_toArray, List.set_cons_zero, List.set_cons_succ, i64_w, i32_w]
    rfl
   refine pure_ (i := 17) (N := some 12) (v := ?_) (a' := ?_) #[true, true, true, true, true, true, true, true, true, true, true, true, true, true, true, true, true, true, false] rfl rfl (any_of HT_.out (by kernel_rfl)) (fun _ _ _ h => h) (Or.inl ⟨by rfl, ?_⟩) ?_ ?_
   rotate_left
   ·intro w'
    go_simp
    with_reducible rfl
   rotate_left
   ·simp only [Act.put, List.setIfInBounds_toArray, List.set_cons_zero, List.set_cons_succ, i64_w, i32_w]
    rfl
   refine pure_ (i := 18) (N := some 13) (v := ?_) (a' := ?_) #[true, true, true, true, true, true, true, true, true, true, true, true, true, true, true, true, true, true, true] rfl rfl (any_of HT_.out (by kernel_rfl)) (fun _ _ _ h => h) (Or.inl ⟨by rfl, ?_⟩) ?_ ?_
   rotate_left
   ·intro w'
    go_simp
    with_reducible rfl
   rotate_left
   ·simp only [Act.put, List.setIfInBounds_toArray, List.set_cons_zero, List.set_cons_succ, i64_w, i32_w]
    rfl
   refine done_ (done_of HT_.out (by kernel_rfl)) ?_
   try go_wp2
   go_ret2
   exact ⟨_, by first | rfl | (simp [errW_none, errW_some] <;> rfl) | (simp [*, errW_none, errW_some] <;> rfl), by (with_reducible repeat (first | apply Kd.R_alloc | apply Kd.R_drewN | apply Kd.R_drew)); exact Kd.R_mono HO366.out (fun _ hk => trivial), by repeat (first | (with_reducible first | exact HB.out | apply below_alloc | apply pw_below_drewN | apply below_drew1 | refine below_set ?_ GE339.out) | exact HB.out)⟩
  ·rw [if_neg c9] at H
   exact absurd H (by simp)
 ·rw [if_neg c8] at H
  exact absurd H (by simp)
end Go.Proofs.YtijldedhcjkhiaaDoor.Z
