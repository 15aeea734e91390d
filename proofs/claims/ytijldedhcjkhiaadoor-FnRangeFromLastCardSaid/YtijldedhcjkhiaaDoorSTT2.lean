import Derived.Test.YtijldedhcjkhiaaDoorSTT0
import Derived.Test.YtijldedhcjkhiaaDoorSTT1
namespace Go.Proofs.YtijldedhcjkhiaaDoor.T
open Go.RowKit Go.Proofs.YtijldedhcjkhiaaDoorW.PrintWords Go.Proofs.YtijldedhcjkhiaaDoorW.PrintLast Go.Proofs.YtijldedhcjkhiaaDoorW.PrintMore
attribute [local go_sem] max2_int min2_int max_two min_two max_three min_three max_four min_four   -- for this text's walks alone
set_option linter.unusedVariables false
set_option linter.unusedSimpArgs false
def spec_pathIn.f : Nat → Int → Int → Int → Option ((List (S34)))
  | 0, _, _, _ => none
  | k + 1, a0, a1_0, a1_1 => if (IntKind.u64.wrap (a1_1 - a1_0)) = 1 then (some ([] : List (S34))) else ((spec_split.f k (IntKind.u64.wrap (a1_1 - a1_0))).bind fun t104 => (if a0 < (IntKind.u64.wrap (a1_0 + t104)) then ((spec_pathIn.f k a0 a1_0 (IntKind.u64.wrap (a1_0 + t104))).bind fun t105 => ((some (([(⟨IntKind.u64.wrap (a1_0 + t104), a1_1⟩ : S34)] : List (S34)) : List (S34))).bind fun y108 => (if t105.length + y108.length < 8796093022208 then (some (t105 ++ y108)) else (none)))) else ((spec_pathIn.f k a0 (IntKind.u64.wrap (a1_0 + t104)) a1_1).bind fun t114 => ((some (([(⟨a1_0, IntKind.u64.wrap (a1_0 + t104)⟩ : S34)] : List (S34)) : List (S34))).bind fun y117 => (if t114.length + y117.length < 8796093022208 then (some (t114 ++ y117)) else (none))))))
theorem spec_pathIn.mono_l : ∀ k, (∀ y0 y1 y2, LeO (spec_pathIn.f k y0 y1 y2) (spec_pathIn.f (k + 1) y0 y1 y2))
  | 0 => fun _ _ _ r h => by simp [spec_pathIn.f] at h
  | k + 1 => by
    have ih0 := spec_pathIn.mono_l k
    · intro y0 y1 y2
      unfold spec_pathIn.f
      repeat' first
      | (with_reducible exact ih0 _ _ _)
      | (with_reducible exact spec_split.mono _ _)
      | (with_reducible exact LeO.refl _)
      | (with_reducible exact LeO.none _)
      | (with_reducible refine LeO.ite ?_ ?_)
      | (with_reducible refine LeO.bind ?_ (fun _ => ?_))
      | exact ih0 _ _ _
      | exact spec_split.mono _ _
      | exact LeO.none _
      | refine LeO.ite ?_ ?_
      | refine LeO.bind ?_ (fun _ => ?_)
theorem spec_pathIn.mono : ∀ a0 a1 a2 k, LeO (spec_pathIn.f k a0 a1 a2) (spec_pathIn.f (k + 1) a0 a1 a2) := by
  intro a0 a1 a2 k
  have ih0 := spec_pathIn.mono_l k
  exact ih0 a0 a1 a2
def spec_pathIn.T3 : Bool × List (List Nat × List Nat) := (true, [([], []), ([0], [0]), ([], []), ([2], [2]), ([], []), ([4], [4]), ([3, 5], [3, 5]), ([6], [6]), ([1, 7], [1, 7]), ([8, 7, 0, 1, 2, 3, 4, 5, 6, 7, 8], [8])])
def spec_pathIn.B3 : List Nat := [0, 1, 0, 4, 0, 16, 60, 124, 255, 511]
theorem spec_pathIn.tab3 : rtab .any (opsOf Tryd.f101 3) = spec_pathIn.T3 := by kernel_rfl
theorem spec_pathIn.bits3 : waitsOk spec_pathIn.T3.2 spec_pathIn.B3 = true := by kernel_rfl
def spec_pathIn.T5 : Bool × List (List Nat × List Nat) := (true, [([], []), ([], []), ([1], [1]), ([], []), ([2, 3], [2, 3]), ([0, 4], [0, 4]), ([], []), ([], []), ([7], [7]), ([6, 8], [6, 8]), ([9], [9]), ([5, 10, 5], [5, 10]), ([11, 11, 0, 1, 2, 3, 4, 5, 6, 7, 8, 9, 10, 11], [11])])
def spec_pathIn.B5 : List Nat := [0, 0, 2, 0, 14, 31, 0, 0, 128, 448, 960, 2047, 4095]
theorem spec_pathIn.tab5 : rtab .any (opsOf Tryd.f101 5) = spec_pathIn.T5 := by kernel_rfl
theorem spec_pathIn.bits5 : waitsOk spec_pathIn.T5.2 spec_pathIn.B5 = true := by kernel_rfl
def spec_pathIn.T6 : Bool × List (List Nat × List Nat) := (true, [([], []), ([], []), ([], []), ([2], [2]), ([1, 3], [1, 3]), ([0, 4], [0, 4]), ([], []), ([6], [6]), ([], []), ([7, 8], [7, 8]), ([9], [9]), ([5, 10, 5], [5, 10]), ([11, 11, 0, 1, 2, 3, 4, 5, 6, 7, 8, 9, 10, 11], [11])])
def spec_pathIn.B6 : List Nat := [0, 0, 0, 4, 14, 31, 0, 64, 0, 448, 960, 2047, 4095]
theorem spec_pathIn.tab6 : rtab .any (opsOf Tryd.f101 6) = spec_pathIn.T6 := by kernel_rfl
theorem spec_pathIn.bits6 : waitsOk spec_pathIn.T6.2 spec_pathIn.B6 = true := by kernel_rfl
set_option maxHeartbeats 8000000 in
set_option maxRecDepth 100000 in
theorem spec_pathIn.calls (k : Nat) : ∀ (a0 : Int) (a1_0 : Int) (a1_1 : Int) (r : List (S34)) (w : World) (h : spec_pathIn.f k a0 a1_0 a1_1 = some r),
    Calls Tryd.prog 101 #[.int .u64 a0, .agg #[.int .u64 a1_0, .int .u64 a1_1]] w fun e w' => ∃ v0_ : Value, e = .returned (v0_) ∧ Kd.R k34 34 w' w.heap.size (fun _ => True) v0_ r ∧ Below w.heap.size w w' := by
  induction k using Nat.strongRecOn with
  | _ k ih =>
  intro a0 a1_0 a1_1 r w h
  cases k with
  | zero => exact absurd h (by simp [spec_pathIn.f])
  | succ k =>
  simp only [spec_pathIn.f] at h
  have hu34 := Tryd.underlying34
  have HB := Aside0.mk (Below.refl w.heap.size w)
  have H : (if (IntKind.u64.wrap (a1_1 - a1_0)) = 1 then (some ([] : List (S34))) else ((spec_split.f k (IntKind.u64.wrap (a1_1 - a1_0))).bind fun t104 => (if a0 < (IntKind.u64.wrap (a1_0 + t104)) then ((spec_pathIn.f k a0 a1_0 (IntKind.u64.wrap (a1_0 + t104))).bind fun t105 => ((some (([(⟨IntKind.u64.wrap (a1_0 + t104), a1_1⟩ : S34)] : List (S34)) : List (S34))).bind fun y108 => (if t105.length + y108.length < 8796093022208 then (some (t105 ++ y108)) else (none)))) else ((spec_pathIn.f k a0 (IntKind.u64.wrap (a1_0 + t104)) a1_1).bind fun t114 => ((some (([(⟨a1_0, IntKind.u64.wrap (a1_0 + t104)⟩ : S34)] : List (S34)) : List (S34))).bind fun y117 => (if t114.length + y117.length < 8796093022208 then (some (t114 ++ y117)) else (none))))))) = some r := h
  clear h
  by_cases c3 : (IntKind.u64.wrap (a1_1 - a1_0)) = 1
  · rw [if_pos c3] at H
    have c3b0 : ((IntKind.u64.wrap (a1_1 - a1_0)) == 1) = true := beq_iff_eq.mpr c3
    have c3b1 : ((IntKind.u64.wrap (a1_1 - a1_0)) != 1) = false := bne_eq_false_iff_eq.mpr c3
    clear c3
    obtain rfl := Option.some.inj H
    go_enter Tryd.func101, Tryd.ntmps101
    go_wp2_with (first | ((with_reducible refine gate_dst (N := 3) rfl ?_); refine box_event ?hg (N := 3) ?hd (cs := #[.int .u64 a1_0, .int .u64 a1_1]) (t := 34) ?hr ?_; (case hd => rfl); (case hg => rfl); (case hr => first | (go_simp; done) | (go_simp; rfl)); intro gb103 hg w4 hbox hb; have n0_ := Aside0.mk (below_step (by repeat (first | (with_reducible first | exact HB.out | apply below_alloc | apply pw_below_drewN | apply below_drew1) | exact HB.out)) hb); have n1_ := Aside0.mk (hbox); have n2_ := Aside0.mk ((by rw [hg]; exact (below_size (by repeat (first | (with_reducible first | exact HB.out | apply below_alloc | apply pw_below_drewN | apply below_drew1) | exact HB.out))) : w.heap.size ≤ gb103)); have n3_ := Aside0.mk ((by rw [hg]; exact (below_size (by repeat (first | (with_reducible first | exact HB.out | apply below_alloc | apply pw_below_drewN | apply below_drew1) | exact HB.out))) : w.heap.size ≤ gb103)); clear HB; have HB := n0_; have BK103 := n1_; have GW103 := n2_; have GE103 := n3_; clear n0_ n1_ n2_ n3_; clear hb hbox hg; have hcz5_0 : w4.cell? ⟨gb103, 0, none⟩ = some (.int .u64 a1_0) := (blk_cell BK103.out 0).trans rfl; have hcz5_1 : w4.cell? ⟨gb103, 1, none⟩ = some (.int .u64 a1_1) := (blk_cell BK103.out 1).trans rfl; have hfz5_0 := blk_frozen BK103.out 0; have hfz5_1 := blk_frozen BK103.out 1))
    go_ret
    exact ⟨_, by first | rfl | (simp [errW_none, errW_some] <;> rfl) | (simp [*, errW_none, errW_some] <;> rfl), by first | exact Kd.R_nil _ _ _ _ _ | exact Kd.N_nil _ _ _ _ _ | exact Kd.V_nil _ _ _ _ _ | exact Kd.Q_nil _ _ _ _ _ | exact Kd.S_nil _ _ _ _ _, by repeat (first | (with_reducible first | exact HB.out | apply below_alloc | apply pw_below_drewN | apply below_drew1 | refine below_set ?_ GE103.out) | exact HB.out)⟩
  · rw [if_neg c3] at H
    have c3b0 : ((IntKind.u64.wrap (a1_1 - a1_0)) == 1) = false := beq_eq_false_iff_ne.mpr c3
    have c3b1 : ((IntKind.u64.wrap (a1_1 - a1_0)) != 1) = true := bne_iff_ne.mpr c3
    replace H := Option.bind_eq_some_iff.mp H
    obtain ⟨t104, A60, H⟩ := H
    replace H : (if a0 < (IntKind.u64.wrap (a1_0 + t104)) then ((spec_pathIn.f k a0 a1_0 (IntKind.u64.wrap (a1_0 + t104))).bind fun t105 => ((some (([(⟨IntKind.u64.wrap (a1_0 + t104), a1_1⟩ : S34)] : List (S34)) : List (S34))).bind fun y108 => (if t105.length + y108.length < 8796093022208 then (some (t105 ++ y108)) else (none)))) else ((spec_pathIn.f k a0 (IntKind.u64.wrap (a1_0 + t104)) a1_1).bind fun t114 => ((some (([(⟨a1_0, IntKind.u64.wrap (a1_0 + t104)⟩ : S34)] : List (S34)) : List (S34))).bind fun y117 => (if t114.length + y117.length < 8796093022208 then (some (t114 ++ y117)) else (none))))) = some r := H
    have A6 := Aside0.mk A60
    clear A60
    by_cases c7 : a0 < (IntKind.u64.wrap (a1_0 + t104))
    · rw [if_pos c7] at H
      have c7b0 : decide (a0 < (IntKind.u64.wrap (a1_0 + t104))) = true := decide_eq_true c7
      clear c7
      replace H := Option.bind_eq_some_iff.mp H
      obtain ⟨t105, A80, H⟩ := H
      replace H : ((some (([(⟨IntKind.u64.wrap (a1_0 + t104), a1_1⟩ : S34)] : List (S34)) : List (S34))).bind fun y108 => (if t105.length + y108.length < 8796093022208 then (some (t105 ++ y108)) else (none))) = some r := H
      have A8 := Aside0.mk A80
      clear A80
      obtain ⟨y108, hy108⟩ : ∃ y_ : List (S34), y_ = (([(⟨IntKind.u64.wrap (a1_0 + t104), a1_1⟩ : S34)] : List (S34))) := ⟨_, rfl⟩
      replace H : (if t105.length + y108.length < 8796093022208 then (some (t105 ++ y108)) else (none)) = some r := by first | (rw [hy108]; with_reducible exact H) | (have H2_ := (Option.bind_some _ _).symm.trans H; rw [hy108]; with_reducible exact H2_) | (have H2_ := (Option.bind_some _ _).symm.trans H; with_reducible exact H2_) | with_reducible exact H | (rw [hy108]; exact H) | exact H
      have Ny108 := Aside0.mk hy108
      clear hy108
      by_cases c9 : t105.length + y108.length < 8796093022208
      · rw [if_pos c9] at H
        have LMc9 := Aside0.mk c9
        clear c9
        obtain ⟨y111, hy111⟩ : ∃ y_ : List (S34), y_ = (t105 ++ y108) := ⟨_, rfl⟩
        replace H : (some y111) = some r := by first | (rw [hy111]; with_reducible exact H) | (have H2_ := (Option.bind_some _ _).symm.trans H; rw [hy111]; with_reducible exact H2_) | (have H2_ := (Option.bind_some _ _).symm.trans H; with_reducible exact H2_) | with_reducible exact H | (rw [hy111]; exact H) | exact H
        have Ny111 := Aside0.mk hy111
        clear hy111
        obtain rfl := Option.some.inj H
        go_enter Tryd.func101, Tryd.ntmps101
        try go_wp2_with (first | ((with_reducible refine gate_dst (N := 3) rfl ?_); refine box_event ?hg (N := 3) ?hd (cs := #[.int .u64 a1_0, .int .u64 a1_1]) (t := 34) ?hr ?_; (case hd => rfl); (case hg => rfl); (case hr => first | (go_simp; done) | (go_simp; rfl)); intro gb103 hg w10 hbox hb; have n0_ := Aside0.mk (below_step (by repeat (first | (with_reducible first | exact HB.out | apply below_alloc | apply pw_below_drewN | apply below_drew1) | exact HB.out)) hb); have n1_ := Aside0.mk (hbox); have n2_ := Aside0.mk ((by rw [hg]; exact (below_size (by repeat (first | (with_reducible first | exact HB.out | apply below_alloc | apply pw_below_drewN | apply below_drew1) | exact HB.out))) : w.heap.size ≤ gb103)); have n3_ := Aside0.mk ((by rw [hg]; exact (below_size (by repeat (first | (with_reducible first | exact HB.out | apply below_alloc | apply pw_below_drewN | apply below_drew1) | exact HB.out))) : w.heap.size ≤ gb103)); clear HB; have HB := n0_; have BK103 := n1_; have GW103 := n2_; have GE103 := n3_; clear n0_ n1_ n2_ n3_; clear hb hbox hg; have hcz11_0 : w10.cell? ⟨gb103, 0, none⟩ = some (.int .u64 a1_0) := (blk_cell BK103.out 0).trans rfl; have hcz11_1 : w10.cell? ⟨gb103, 1, none⟩ = some (.int .u64 a1_1) := (blk_cell BK103.out 1).trans rfl; have hfz11_0 := blk_frozen BK103.out 0; have hfz11_1 := blk_frozen BK103.out 1))
        have n0_ := Aside0.mk (blk_drew BK103.out)
        have n1_ := Aside0.mk (below_drew1 HB.out)
        clear BK103
        clear HB
        have BK103 := n0_
        have HB := n1_
        clear n0_ n1_
        refine start_ (n := 10) (S := fun w' => w'.cell? ⟨gb103, 0, none⟩ = some (.int .u64 a1_0) ∧ w'.cell? ⟨gb103, 1, none⟩ = some (.int .u64 a1_1)) (ds := []) #[false, false, false, false, false, false, false, false, false, false] (by kernel_rfl) rfl rfl ⟨(blk_cell BK103.out 0).trans rfl, (blk_cell BK103.out 1).trans rfl⟩ (fun hHeld => ?_); refine with_tabW spec_pathIn.tab3 spec_pathIn.bits3 (fun HT_ HW_ => ?_)
        generalize w10.drew = w12 at BK103 HB hHeld ⊢
        refine pure_ (i := 0) (N := some 12) (v := ?_) (a' := ?_) #[true, false, false, false, false, false, false, false, false, false] rfl rfl (any_of HT_.out (by kernel_rfl)) (fun _ _ _ h => h) (Or.inl ⟨by rfl, ?_⟩) ?_ ?_
        rotate_left
        · intro w'
          go_simp
          with_reducible rfl
        rotate_left
        · simp only [Act.put, List.setIfInBounds_toArray, List.set_cons_zero, List.set_cons_succ, i64_w, i32_w]
          rfl
        refine pure_ (i := 2) (N := some 14) (v := ?_) (a' := ?_) #[true, false, true, false, false, false, false, false, false, false] rfl rfl (any_of HT_.out (by kernel_rfl)) (fun _ _ _ h => h) (Or.inl ⟨by rfl, ?_⟩) ?_ ?_
        rotate_left
        · intro w'
          go_simp
          with_reducible rfl
        rotate_left
        · simp only [Act.put, List.setIfInBounds_toArray, List.set_cons_zero, List.set_cons_succ, i64_w, i32_w]
          rfl
        refine pure_ (i := 4) (N := some 16) (v := ?_) (a' := ?_) #[true, false, true, false, true, false, false, false, false, false] rfl rfl (any_of HT_.out (by kernel_rfl)) (fun _ _ _ h => h) (Or.inl ⟨by rfl, ?_⟩) ?_ ?_
        rotate_left
        · intro w'
          go_simp
          with_reducible rfl
        rotate_left
        · simp only [Act.put, List.setIfInBounds_toArray, List.set_cons_zero, List.set_cons_succ, i64_w, i32_w]
          rfl
        refine take_ (i := 1) (N := some 13) (v := ?_) (a' := ?_) #[true, true, true, false, true, false, false, false, false, false] rfl rfl (take_ofW HT_.out HW_.out (by kernel_rfl)) (fun _ _ _ h => h) (Or.inl ⟨by rfl, ?_⟩) hHeld ?_ ?_
        rotate_left
        · rintro w' ⟨s0, s1⟩
          go_simp
          with_reducible rfl
        rotate_left
        · simp only [Act.put, List.setIfInBounds_toArray, List.set_cons_zero, List.set_cons_succ, i64_w, i32_w]
          rfl
        refine take_ (i := 3) (N := some 15) (v := ?_) (a' := ?_) #[true, true, true, true, true, false, false, false, false, false] rfl rfl (take_ofW HT_.out HW_.out (by kernel_rfl)) (fun _ _ _ h => h) (Or.inl ⟨by rfl, ?_⟩) hHeld ?_ ?_
        rotate_left
        · rintro w' ⟨s0, s1⟩
          go_simp
          with_reducible rfl
        rotate_left
        · simp only [Act.put, List.setIfInBounds_toArray, List.set_cons_zero, List.set_cons_succ, i64_w, i32_w]
          rfl
        refine take_ (i := 5) (N := some 17) (v := ?_) (a' := ?_) #[true, true, true, true, true, true, false, false, false, false] rfl rfl (take_ofW HT_.out HW_.out (by kernel_rfl)) (fun _ _ _ h => h) (Or.inl ⟨by rfl, ?_⟩) hHeld ?_ ?_
        rotate_left
        · rintro w' ⟨s0, s1⟩
          go_simp
          with_reducible rfl
        rotate_left
        · simp only [Act.put, List.setIfInBounds_toArray, List.set_cons_zero, List.set_cons_succ, i64_w, i32_w]
          rfl
        refine pure_ (i := 6) (N := some 18) (v := ?_) (a' := ?_) #[true, true, true, true, true, true, true, false, false, false] rfl rfl (any_of HT_.out (by kernel_rfl)) (fun _ _ _ h => h) (Or.inl ⟨by rfl, ?_⟩) ?_ ?_
        rotate_left
        · intro w'
          go_simp
          with_reducible rfl
        rotate_left
        · simp only [Act.put, List.setIfInBounds_toArray, List.set_cons_zero, List.set_cons_succ, i64_w, i32_w]
          rfl
        refine one_ (i := 7) (N := some 19) #[true, true, true, true, true, true, true, true, false, false] rfl rfl (one_of HT_.out (by kernel_rfl)) (by decide) (fun K hK => ?_)
        refine goes_ Tryd.func85 (by kernel_rfl) rfl #[.int .u64 (IntKind.u64.wrap (a1_1 - a1_0))] (by rfl) rfl rfl (by (try simp only [List.map_toArray, List.map_cons, List.map_nil]); first | done | rfl | (simp only [List.length_drop, List.length_take]; rfl)) ?_
        with_reducible refine (spec_split.calls k (IntKind.u64.wrap (a1_1 - a1_0)) t104 _ A6.out).mono ?_
        rintro e w' ⟨rfl, ⟨nd, rfl⟩⟩
        refine ⟨_, rfl, ?_⟩
        refine hK.out _ _ ⟨(blk_cell BK103.out 0).trans rfl, (blk_cell BK103.out 1).trans rfl⟩ (fun hHeld => ?_)
        clear hK K
        refine norm_ (a' := ?_) ?_ ?_
        rotate_left
        · show Act.put _ (some 19) _ = _
          simp only [Act.put, List.setIfInBounds_toArray, List.set_cons_zero, List.set_cons_succ, i64_w, i32_w]
          rfl
        refine pure_ (i := 8) (N := some 20) (v := ?_) (a' := ?_) #[true, true, true, true, true, true, true, true, true, false] rfl rfl (any_of HT_.out (by kernel_rfl)) (fun _ _ _ h => h) (Or.inl ⟨by rfl, ?_⟩) ?_ ?_
        rotate_left
        · intro w'
          go_simp
          with_reducible rfl
        rotate_left
        · simp only [Act.put, List.setIfInBounds_toArray, List.set_cons_zero, List.set_cons_succ, i64_w, i32_w]
          rfl
        refine pure_ (i := 9) (N := some 5) (v := ?_) (a' := ?_) #[true, true, true, true, true, true, true, true, true, true] rfl rfl (any_of HT_.out (by kernel_rfl)) (fun _ _ _ h => h) (Or.inl ⟨by rfl, ?_⟩) ?_ ?_
        rotate_left
        · intro w'
          go_simp
          with_reducible rfl
        rotate_left
        · simp only [Act.put, List.setIfInBounds_toArray, List.set_cons_zero, List.set_cons_succ, i64_w, i32_w]
          rfl
        refine done_ (done_of HT_.out (by kernel_rfl)) ?_
        try go_wp2
        (try (rw [drewN_self w12]; generalize hq_ : World.drewN w12 _ = w12; have n0_ : Aside0 (w12.heap[gb103]? = some (.cells #[.int .u64 a1_0, .int .u64 a1_1] 34 (0, 0))) := ⟨by rw [← hq_]; exact (by (with_reducible repeat (first | refine blk_drewN ?_ _ | refine blk_drew ?_ | refine blk_alloc ?_ _)); exact BK103.out)⟩; have n1_ : Aside0 (Below w.heap.size w w12) := ⟨by rw [← hq_]; exact (by repeat (first | (with_reducible first | exact HB.out | apply below_alloc | apply pw_below_drewN | apply below_drew1 | refine below_set ?_ GE103.out) | exact HB.out))⟩; clear BK103 HB hq_; have BK103 := n0_; have HB := n1_; clear n0_ n1_))
        have n0_ := Aside0.mk (blk_drew BK103.out)
        have n1_ := Aside0.mk (below_drew1 HB.out)
        clear BK103
        clear HB
        have BK103 := n0_
        have HB := n1_
        clear n0_ n1_
        refine start_ (n := 13) (S := fun w' => w'.cell? ⟨gb103, 0, none⟩ = some (.int .u64 a1_0) ∧ w'.cell? ⟨gb103, 1, none⟩ = some (.int .u64 a1_1)) (ds := []) #[false, false, false, false, false, false, false, false, false, false, false, false, false] (by kernel_rfl) rfl rfl ⟨(blk_cell BK103.out 0).trans rfl, (blk_cell BK103.out 1).trans rfl⟩ (fun hHeld => ?_); refine with_tabW spec_pathIn.tab5 spec_pathIn.bits5 (fun HT_ HW_ => ?_)
        generalize w12.drew = w13 at BK103 HB hHeld ⊢
        refine pure_ (i := 0) (N := some 24) (v := ?_) (a' := ?_) #[true, false, false, false, false, false, false, false, false, false, false, false, false] rfl rfl (any_of HT_.out (by kernel_rfl)) (fun _ _ _ h => h) (Or.inl ⟨by rfl, ?_⟩) ?_ ?_
        rotate_left
        · intro w'
          go_simp
          with_reducible rfl
        rotate_left
        · simp only [Act.put, List.setIfInBounds_toArray, List.set_cons_zero, List.set_cons_succ, i64_w, i32_w]
          rfl
        refine pure_ (i := 1) (N := some 25) (v := ?_) (a' := ?_) #[true, true, false, false, false, false, false, false, false, false, false, false, false] rfl rfl (any_of HT_.out (by kernel_rfl)) (fun _ _ _ h => h) (Or.inl ⟨by rfl, ?_⟩) ?_ ?_
        rotate_left
        · intro w'
          go_simp
          with_reducible rfl
        rotate_left
        · simp only [Act.put, List.setIfInBounds_toArray, List.set_cons_zero, List.set_cons_succ, i64_w, i32_w]
          rfl
        refine pure_ (i := 3) (N := some 27) (v := ?_) (a' := ?_) #[true, true, false, true, false, false, false, false, false, false, false, false, false] rfl rfl (any_of HT_.out (by kernel_rfl)) (fun _ _ _ h => h) (Or.inl ⟨by rfl, ?_⟩) ?_ ?_
        rotate_left
        · intro w'
          go_simp
          with_reducible rfl
        rotate_left
        · simp only [Act.put, List.setIfInBounds_toArray, List.set_cons_zero, List.set_cons_succ, i64_w, i32_w]
          rfl
        refine pure_ (i := 6) (N := some 30) (v := ?_) (a' := ?_) #[true, true, false, true, false, false, true, false, false, false, false, false, false] rfl rfl (any_of HT_.out (by kernel_rfl)) (fun _ _ _ h => h) (Or.inl ⟨by rfl, ?_⟩) ?_ ?_
        rotate_left
        · intro w'
          go_simp
          with_reducible rfl
        rotate_left
        · simp only [Act.put, List.setIfInBounds_toArray, List.set_cons_zero, List.set_cons_succ, i64_w, i32_w]
          rfl
        refine pure_ (i := 7) (N := some 31) (v := ?_) (a' := ?_) #[true, true, false, true, false, false, true, true, false, false, false, false, false] rfl rfl (any_of HT_.out (by kernel_rfl)) (fun _ _ _ h => h) (Or.inl ⟨by rfl, ?_⟩) ?_ ?_
        rotate_left
        · intro w'
          go_simp
          with_reducible rfl
        rotate_left
        · simp only [Act.put, List.setIfInBounds_toArray, List.set_cons_zero, List.set_cons_succ, i64_w, i32_w]
          rfl
        refine take_ (i := 2) (N := some 26) (v := ?_) (a' := ?_) #[true, true, true, true, false, false, true, true, false, false, false, false, false] rfl rfl (take_ofW HT_.out HW_.out (by kernel_rfl)) (fun _ _ _ h => h) (Or.inl ⟨by rfl, ?_⟩) hHeld ?_ ?_
        rotate_left
        · rintro w' ⟨s0, s1⟩
          go_simp
          with_reducible rfl
        rotate_left
        · simp only [Act.put, List.setIfInBounds_toArray, List.set_cons_zero, List.set_cons_succ, i64_w, i32_w]
          rfl
        refine pure_ (i := 4) (N := some 28) (v := ?_) (a' := ?_) #[true, true, true, true, true, false, true, true, false, false, false, false, false] rfl rfl (any_of HT_.out (by kernel_rfl)) (fun _ _ _ h => h) (Or.inl ⟨by rfl, ?_⟩) ?_ ?_
        rotate_left
        · intro w'
          go_simp
          with_reducible rfl
        rotate_left
        · simp only [Act.put, List.setIfInBounds_toArray, List.set_cons_zero, List.set_cons_succ, i64_w, i32_w]
          rfl
        refine take_ (i := 8) (N := some 32) (v := ?_) (a' := ?_) #[true, true, true, true, true, false, true, true, true, false, false, false, false] rfl rfl (take_ofW HT_.out HW_.out (by kernel_rfl)) (fun _ _ _ h => h) (Or.inl ⟨by rfl, ?_⟩) hHeld ?_ ?_
        rotate_left
        · rintro w' ⟨s0, s1⟩
          go_simp
          with_reducible rfl
        rotate_left
        · simp only [Act.put, List.setIfInBounds_toArray, List.set_cons_zero, List.set_cons_succ, i64_w, i32_w]
          rfl
        refine pure_ (i := 9) (N := some 33) (v := ?_) (a' := ?_) #[true, true, true, true, true, false, true, true, true, true, false, false, false] rfl rfl (any_of HT_.out (by kernel_rfl)) (fun _ _ _ h => h) (Or.inl ⟨by rfl, ?_⟩) ?_ ?_
        rotate_left
        · intro w'
          go_simp
          with_reducible rfl
        rotate_left
        · simp only [Act.put, List.setIfInBounds_toArray, List.set_cons_zero, List.set_cons_succ, i64_w, i32_w]
          rfl
        refine join_ (σ := Value × Value) 2 #[true, true, true, true, true, true, true, true, true, true, true, false, false] (fun s_ => [(29, s_.1), (34, s_.2)]) (fun s_ w' => (w'.cell? ⟨gb103, 0, none⟩ = some (.int .u64 a1_0) ∧ w'.cell? ⟨gb103, 1, none⟩ = some (.int .u64 a1_1)) ∧ (Kd.R k34 34 w' w.heap.size (fun k_ => some k_ ≠ (s_.2 : Value).ownBlock ∧ k_ ≠ gb103) s_.1 t105) ∧ (Kd.R k34 34 w' w.heap.size (fun k_ => some k_ ≠ (s_.1 : Value).ownBlock ∧ k_ ≠ gb103) s_.2 y108) ∧ (w'.heap[gb103]? = some (.cells #[.int .u64 a1_0, .int .u64 a1_1] 34 (0, 0))) ∧ (Below w.heap.size w w')) ?_ ?_
        rotate_left
        · intro hCont
          refine two_ (i := 5) (j := 10) (Ni := some 29) (Nj := some 34) #[true, true, true, true, true, true, true, true, true, true, false, false, false] #[true, true, true, true, true, false, true, true, true, true, true, false, false] rfl rfl rfl rfl (two_of HT_.out (by kernel_rfl)) (by decide) (by decide) (fun K hK => ?_) (fun K hK => ?_)
          · skip
            refine goes_ Tryd.func101 (by kernel_rfl) rfl #[.int .u64 a0, .agg #[.int .u64 a1_0, .int .u64 (IntKind.u64.wrap (a1_0 + t104))]] (by rfl) rfl rfl (by (try simp only [List.map_toArray, List.map_cons, List.map_nil]); first | done | rfl | (simp only [List.length_drop, List.length_take]; rfl)) ?_
            with_reducible refine (ih k (by omega) a0 a1_0 (IntKind.u64.wrap (a1_0 + t104)) t105 _ A8.out).mono ?_
            rintro e w14 ⟨v106, rfl, ho0, hb⟩
            refine ⟨_, rfl, ?_⟩
            have n0_ := Aside0.mk (Kd.R_lower (Kd.R_newB ho0 (g := gb103) (o := .cells #[.int .u64 a1_0, .int .u64 a1_1] 34 (0, 0)) (by (with_reducible repeat (first | refine blk_drewN ?_ _ | refine blk_drew ?_ | refine blk_alloc ?_ _)); exact BK103.out)) (below_size (by repeat (first | (with_reducible first | exact HB.out | apply below_alloc | apply pw_below_drewN | apply below_drew1 | refine below_set ?_ GE103.out) | exact HB.out))))
            have n1_ := Aside0.mk (blk_below (g := gb103) (o := .cells #[.int .u64 a1_0, .int .u64 a1_1] 34 (0, 0)) (by (with_reducible repeat (first | refine blk_drewN ?_ _ | refine blk_drew ?_ | refine blk_alloc ?_ _)); exact BK103.out) hb)
            have n2_ := Aside0.mk (below_step (by repeat (first | (with_reducible first | exact HB.out | apply below_alloc | apply pw_below_drewN | apply below_drew1 | refine below_set ?_ GE103.out) | exact HB.out)) hb)
            clear BK103
            clear HB
            have HO107 := n0_
            have BK103 := n1_
            have HB := n2_
            clear n0_ n1_ n2_
            (try clear hb)
            (try clear hb2)
            (try clear hk)
            (try clear hi)
            (try clear ho0)
            refine hK.out _ _ ⟨(blk_cell BK103.out 0).trans rfl, (blk_cell BK103.out 1).trans rfl⟩ (fun hHeld => ?_)
            clear hK K
            refine norm_ (a' := ?_) ?_ ?_
            rotate_left
            · show Act.put _ (some 29) _ = _
              simp only [Act.put, List.setIfInBounds_toArray, List.set_cons_zero, List.set_cons_succ, i64_w, i32_w]
              rfl
            refine one_ (i := 10) (N := some 34) #[true, true, true, true, true, true, true, true, true, true, true, false, false] rfl rfl (one_of HT_.out (by kernel_rfl)) (by decide) (fun K hK => ?_)
            refine Kd.R_lit_step k34 _ 34 ?hg (N := 34) ?hd (xs := ([(⟨IntKind.u64.wrap (a1_0 + t104), a1_1⟩ : S34)] : List (S34))) (inner := [.int .u64 (IntKind.u64.wrap (a1_0 + t104)), .int .u64 a1_1]) (ok := fun _ => True) (okp := fun _ => True) ?hr ?hp (fun _ hk => hk) trivial (Below.refl _ _) (Nat.le_refl _) (by simp) ?_; (case hd => rfl); (case hg => rfl); (case hr => first | (go_simp; done) | (go_simp; rfl)); (case hp => exact (Reps.c2 (show Kd.M k34 _ _ _ (⟨IntKind.u64.wrap (a1_0 + t104), a1_1⟩ : S34) [.int .u64 (IntKind.u64.wrap (a1_0 + t104)), .int .u64 a1_1] from (k34_mkM _ _ _ (⟨IntKind.u64.wrap (a1_0 + t104), a1_1⟩ : S34) )) (Reps.none _ _)))
            intro v109 w15 ho16 hb hg_ hnew_
            clear hg_ hnew_
            (first | rw [← Ny108.out] at ho16 | (simp only [Int.reduceToNat] at ho16; rw [← Ny108.out] at ho16))
            have n0_ := Aside0.mk (Kd.R_elder' (by (with_reducible repeat (first | apply Kd.R_alloc | apply Kd.R_drewN | apply Kd.R_drew)); exact HO107.out) (Kd.R_base ho16) hb)
            have n1_ := Aside0.mk (Kd.R_lower (Kd.R_newB (Kd.R_new' ho16 (Kd.R_lt (by (with_reducible repeat (first | apply Kd.R_alloc | apply Kd.R_drewN | apply Kd.R_drew)); exact HO107.out))) (g := gb103) (o := .cells #[.int .u64 a1_0, .int .u64 a1_1] 34 (0, 0)) (by (with_reducible repeat (first | refine blk_drewN ?_ _ | refine blk_drew ?_ | refine blk_alloc ?_ _)); exact BK103.out)) (below_size (by repeat (first | (with_reducible first | exact HB.out | apply below_alloc | apply pw_below_drewN | apply below_drew1 | refine below_set ?_ GE103.out) | exact HB.out))))
            have n2_ := Aside0.mk (blk_below (g := gb103) (o := .cells #[.int .u64 a1_0, .int .u64 a1_1] 34 (0, 0)) (by (with_reducible repeat (first | refine blk_drewN ?_ _ | refine blk_drew ?_ | refine blk_alloc ?_ _)); exact BK103.out) hb)
            have n3_ := Aside0.mk (below_step (by repeat (first | (with_reducible first | exact HB.out | apply below_alloc | apply pw_below_drewN | apply below_drew1 | refine below_set ?_ GE103.out) | exact HB.out)) hb)
            clear HO107
            clear BK103
            clear HB
            have HO107 := n0_
            have HO110 := n1_
            have BK103 := n2_
            have HB := n3_
            clear n0_ n1_ n2_ n3_
            clear hb ho16
            refine hK.out _ _ ⟨(blk_cell BK103.out 0).trans rfl, (blk_cell BK103.out 1).trans rfl⟩ (fun hHeld => ?_)
            clear hK K
            refine norm_ (a' := ?_) ?_ ?_
            rotate_left
            · show Act.put _ (some 34) _ = _
              simp only [Act.put, List.setIfInBounds_toArray, List.set_cons_zero, List.set_cons_succ, i64_w, i32_w]
              rfl
            exact norm_ (by simp only [putAll, Act.put, List.setIfInBounds_toArray, List.set_cons_zero, List.set_cons_succ]) (hCont (v106, v109) _ ⟨hHeld, (by (with_reducible repeat (first | apply Kd.R_alloc | apply Kd.R_drewN | apply Kd.R_drew)); exact Kd.R_mono HO107.out (fun _ hk => ⟨hk.2, hk.1.2⟩)), (by (with_reducible repeat (first | apply Kd.R_alloc | apply Kd.R_drewN | apply Kd.R_drew)); exact Kd.R_mono HO110.out (fun _ hk => ⟨hk.1.2, hk.2⟩)), (by (with_reducible repeat (first | refine blk_drewN ?_ _ | refine blk_drew ?_ | refine blk_alloc ?_ _)); exact BK103.out), (by repeat (first | (with_reducible first | exact HB.out | apply below_alloc | apply pw_below_drewN | apply below_drew1 | refine below_set ?_ GE103.out) | exact HB.out))⟩)
          · skip
            refine Kd.R_lit_step k34 _ 34 ?hg (N := 34) ?hd (xs := ([(⟨IntKind.u64.wrap (a1_0 + t104), a1_1⟩ : S34)] : List (S34))) (inner := [.int .u64 (IntKind.u64.wrap (a1_0 + t104)), .int .u64 a1_1]) (ok := fun _ => True) (okp := fun _ => True) ?hr ?hp (fun _ hk => hk) trivial (Below.refl _ _) (Nat.le_refl _) (by simp) ?_; (case hd => rfl); (case hg => rfl); (case hr => first | (go_simp; done) | (go_simp; rfl)); (case hp => exact (Reps.c2 (show Kd.M k34 _ _ _ (⟨IntKind.u64.wrap (a1_0 + t104), a1_1⟩ : S34) [.int .u64 (IntKind.u64.wrap (a1_0 + t104)), .int .u64 a1_1] from (k34_mkM _ _ _ (⟨IntKind.u64.wrap (a1_0 + t104), a1_1⟩ : S34) )) (Reps.none _ _)))
            intro v109 w14 ho15 hb hg_ hnew_
            clear hg_ hnew_
            (first | rw [← Ny108.out] at ho15 | (simp only [Int.reduceToNat] at ho15; rw [← Ny108.out] at ho15))
            have n0_ := Aside0.mk (Kd.R_lower (Kd.R_newB ho15 (g := gb103) (o := .cells #[.int .u64 a1_0, .int .u64 a1_1] 34 (0, 0)) (by (with_reducible repeat (first | refine blk_drewN ?_ _ | refine blk_drew ?_ | refine blk_alloc ?_ _)); exact BK103.out)) (below_size (by repeat (first | (with_reducible first | exact HB.out | apply below_alloc | apply pw_below_drewN | apply below_drew1 | refine below_set ?_ GE103.out) | exact HB.out))))
            have n1_ := Aside0.mk (blk_below (g := gb103) (o := .cells #[.int .u64 a1_0, .int .u64 a1_1] 34 (0, 0)) (by (with_reducible repeat (first | refine blk_drewN ?_ _ | refine blk_drew ?_ | refine blk_alloc ?_ _)); exact BK103.out) hb)
            have n2_ := Aside0.mk (below_step (by repeat (first | (with_reducible first | exact HB.out | apply below_alloc | apply pw_below_drewN | apply below_drew1 | refine below_set ?_ GE103.out) | exact HB.out)) hb)
            clear BK103
            clear HB
            have HO110 := n0_
            have BK103 := n1_
            have HB := n2_
            clear n0_ n1_ n2_
            clear hb ho15
            refine hK.out _ _ ⟨(blk_cell BK103.out 0).trans rfl, (blk_cell BK103.out 1).trans rfl⟩ (fun hHeld => ?_)
            clear hK K
            refine norm_ (a' := ?_) ?_ ?_
            rotate_left
            · show Act.put _ (some 34) _ = _
              simp only [Act.put, List.setIfInBounds_toArray, List.set_cons_zero, List.set_cons_succ, i64_w, i32_w]
              rfl
            refine one_ (i := 5) (N := some 29) #[true, true, true, true, true, true, true, true, true, true, true, false, false] rfl rfl (one_of HT_.out (by kernel_rfl)) (by decide) (fun K hK => ?_)
            refine goes_ Tryd.func101 (by kernel_rfl) rfl #[.int .u64 a0, .agg #[.int .u64 a1_0, .int .u64 (IntKind.u64.wrap (a1_0 + t104))]] (by rfl) rfl rfl (by (try simp only [List.map_toArray, List.map_cons, List.map_nil]); first | done | rfl | (simp only [List.length_drop, List.length_take]; rfl)) ?_
            with_reducible refine (ih k (by omega) a0 a1_0 (IntKind.u64.wrap (a1_0 + t104)) t105 _ A8.out).mono ?_
            rintro e w16 ⟨v106, rfl, ho0, hb⟩
            refine ⟨_, rfl, ?_⟩
            have n0_ := Aside0.mk (Kd.R_elder' (by (with_reducible repeat (first | apply Kd.R_alloc | apply Kd.R_drewN | apply Kd.R_drew)); exact HO110.out) (Kd.R_base ho0) hb)
            have n1_ := Aside0.mk (Kd.R_lower (Kd.R_newB (Kd.R_new' ho0 (Kd.R_lt (by (with_reducible repeat (first | apply Kd.R_alloc | apply Kd.R_drewN | apply Kd.R_drew)); exact HO110.out))) (g := gb103) (o := .cells #[.int .u64 a1_0, .int .u64 a1_1] 34 (0, 0)) (by (with_reducible repeat (first | refine blk_drewN ?_ _ | refine blk_drew ?_ | refine blk_alloc ?_ _)); exact BK103.out)) (below_size (by repeat (first | (with_reducible first | exact HB.out | apply below_alloc | apply pw_below_drewN | apply below_drew1 | refine below_set ?_ GE103.out) | exact HB.out))))
            have n2_ := Aside0.mk (blk_below (g := gb103) (o := .cells #[.int .u64 a1_0, .int .u64 a1_1] 34 (0, 0)) (by (with_reducible repeat (first | refine blk_drewN ?_ _ | refine blk_drew ?_ | refine blk_alloc ?_ _)); exact BK103.out) hb)
            have n3_ := Aside0.mk (below_step (by repeat (first | (with_reducible first | exact HB.out | apply below_alloc | apply pw_below_drewN | apply below_drew1 | refine below_set ?_ GE103.out) | exact HB.out)) hb)
            clear HO110
            clear BK103
            clear HB
            have HO110 := n0_
            have HO107 := n1_
            have BK103 := n2_
            have HB := n3_
            clear n0_ n1_ n2_ n3_
            (try clear hb)
            (try clear hb2)
            (try clear hk)
            (try clear hi)
            (try clear ho0)
            refine hK.out _ _ ⟨(blk_cell BK103.out 0).trans rfl, (blk_cell BK103.out 1).trans rfl⟩ (fun hHeld => ?_)
            clear hK K
            refine norm_ (a' := ?_) ?_ ?_
            rotate_left
            · show Act.put _ (some 29) _ = _
              simp only [Act.put, List.setIfInBounds_toArray, List.set_cons_zero, List.set_cons_succ, i64_w, i32_w]
              rfl
            exact norm_ (by simp only [putAll, Act.put, List.setIfInBounds_toArray, List.set_cons_zero, List.set_cons_succ]) (hCont (v106, v109) _ ⟨hHeld, (by (with_reducible repeat (first | apply Kd.R_alloc | apply Kd.R_drewN | apply Kd.R_drew)); exact Kd.R_mono HO107.out (fun _ hk => ⟨hk.1.2, hk.2⟩)), (by (with_reducible repeat (first | apply Kd.R_alloc | apply Kd.R_drewN | apply Kd.R_drew)); exact Kd.R_mono HO110.out (fun _ hk => ⟨hk.2, hk.1.2⟩)), (by (with_reducible repeat (first | refine blk_drewN ?_ _ | refine blk_drew ?_ | refine blk_alloc ?_ _)); exact BK103.out), (by repeat (first | (with_reducible first | exact HB.out | apply below_alloc | apply pw_below_drewN | apply below_drew1 | refine below_set ?_ GE103.out) | exact HB.out))⟩)
        rintro ⟨v106, v109⟩ w17 ⟨hS_, h0_, h1_, h2_, h3_⟩
        have n0_ : Aside0 (Kd.R k34 34 w17 w.heap.size (fun k_ => some k_ ≠ (v109 : Value).ownBlock ∧ k_ ≠ gb103) v106 t105) := ⟨h0_⟩
        have n1_ : Aside0 (Kd.R k34 34 w17 w.heap.size (fun k_ => some k_ ≠ (v106 : Value).ownBlock ∧ k_ ≠ gb103) v109 y108) := ⟨h1_⟩
        have n2_ : Aside0 (w17.heap[gb103]? = some (.cells #[.int .u64 a1_0, .int .u64 a1_1] 34 (0, 0))) := ⟨h2_⟩
        have n3_ : Aside0 (Below w.heap.size w w17) := ⟨h3_⟩
        clear BK103
        clear HB
        clear h0_ h1_ h2_ h3_
        have HO107 := n0_
        have HO110 := n1_
        have BK103 := n2_
        have HB := n3_
        clear n0_ n1_ n2_ n3_
        have hHeld : w17.cell? ⟨gb103, 0, none⟩ = some (.int .u64 a1_0) ∧ w17.cell? ⟨gb103, 1, none⟩ = some (.int .u64 a1_1) := hS_
        obtain ⟨Ao19, co19, eo19⟩ := Kd.R_slice HO110.out
        (first | subst eo19 | (injection eo19 with f1_ f2_ f3_; have f4_ := f1_.symm; have f5_ := f3_.symm; clear f1_ f2_ f3_; subst f4_; subst f5_))
        refine norm_ (a' := ?_) ?_ ?_
        rotate_left
        · simp only [putAll, Act.put, List.setIfInBounds_toArray, List.set_cons_zero, List.set_cons_succ]
          rfl
        refine one_ (i := 11) (N := some 35) #[true, true, true, true, true, true, true, true, true, true, true, true, false] rfl rfl (one_of HT_.out (by kernel_rfl)) (by decide) (fun K hK => ?_)
        refine Kd.R_append_rows_step k34 (w0 := w) w.heap.size (by rfl) (.tmp 29) (.tmp 34) 60 34 (.agg #[(.int .u64 0), (.int .u64 0)]) 16 rfl Tryd.underlying60 info34 rfl (by decide) (by omega) v106 t105 y108 _ _ _ (fun k_ => some k_ ≠ (.slice Ao19 y108.length co19 : Value).ownBlock ∧ k_ ≠ gb103) (fun _ => False) rfl rfl ?aO ?aR (fun _ _ h => h) (fun _ h => h.elim) ?aF ?aB ?aS ?aL ?_
        (case aR => repeat (first | exact (Kd.R_reads' HO110.out).2.2 | (with_reducible refine Kd.C_alloc ?_ _) | (with_reducible refine Kd.C_drewN ?_ _) | (with_reducible refine Kd.C_drew ?_)))
        (case aB => exact (by repeat (first | (with_reducible first | exact HB.out | apply below_alloc | apply pw_below_drewN | apply below_drew1 | refine below_set ?_ GE103.out) | exact HB.out)))
        (case aF => exact (fun k_ hk => ⟨Kd.fresh' (Kd.R_lt (by (with_reducible repeat (first | apply Kd.R_alloc | apply Kd.R_drewN | apply Kd.R_drew)); exact HO110.out)) k_ hk, Kd.freshB (g := gb103) (o := .cells #[.int .u64 a1_0, .int .u64 a1_1] 34 (0, 0)) (by (with_reducible repeat (first | refine blk_drewN ?_ _ | refine blk_drew ?_ | refine blk_alloc ?_ _)); exact BK103.out) k_ hk⟩))
        (case aO => exact (by (with_reducible repeat (first | apply Kd.R_alloc | apply Kd.R_drewN | apply Kd.R_drew)); exact HO107.out))
        (case aS => exact (below_size (by repeat (first | (with_reducible first | exact HB.out | apply below_alloc | apply pw_below_drewN | apply below_drew1 | refine below_set ?_ GE103.out) | exact HB.out))))
        (case aL => have := LMc9.out; omega)
        intro v112 w18 ho hb hg hat
        rw [← Ny111.out] at ho
        have n0_ := Aside0.mk (blk_grown (g := gb103) (o := .cells #[.int .u64 a1_0, .int .u64 a1_1] 34 (0, 0)) (by (with_reducible repeat (first | refine blk_drewN ?_ _ | refine blk_drew ?_ | refine blk_alloc ?_ _)); exact BK103.out) hg (Kd.R_away HO107.out (fun _ hk => hk.2)))
        have n1_ := Aside0.mk (Kd.R_after (ok := (fun k_ => k_ ≠ gb103)) (by (with_reducible repeat (first | apply Kd.R_alloc | apply Kd.R_drewN | apply Kd.R_drew)); exact Kd.R_mono HO110.out (fun _ hk => ⟨hk.2, hk.1⟩)) hg hat)
        have n2_ := Aside0.mk (hb)
        have n3_ := Aside0.mk (ho)
        clear BK103
        clear HO110
        clear HB
        clear HO107
        have BK103 := n0_
        have HO110 := n1_
        have HB := n2_
        have HO113 := n3_
        clear n0_ n1_ n2_ n3_
        clear ho hb hg hat
        refine hK.out _ _ ⟨(blk_cell BK103.out 0).trans rfl, (blk_cell BK103.out 1).trans rfl⟩ (fun hHeld => ?_)
        clear hK K
        refine norm_ (a' := ?_) ?_ ?_
        rotate_left
        · show Act.put _ (some 35) _ = _
          simp only [Act.put, List.setIfInBounds_toArray, List.set_cons_zero, List.set_cons_succ, i64_w, i32_w]
          rfl
        refine pure_ (i := 12) (N := some 4) (v := ?_) (a' := ?_) #[true, true, true, true, true, true, true, true, true, true, true, true, true] rfl rfl (any_of HT_.out (by kernel_rfl)) (fun _ _ _ h => h) (Or.inl ⟨by rfl, ?_⟩) ?_ ?_
        rotate_left
        · intro w'
          go_simp
          with_reducible rfl
        rotate_left
        · simp only [Act.put, List.setIfInBounds_toArray, List.set_cons_zero, List.set_cons_succ, i64_w, i32_w]
          rfl
        refine done_ (done_of HT_.out (by kernel_rfl)) ?_
        try go_wp2
        go_ret
        exact ⟨_, by first | rfl | (simp [errW_none, errW_some] <;> rfl) | (simp [*, errW_none, errW_some] <;> rfl), by (with_reducible repeat (first | apply Kd.R_alloc | apply Kd.R_drewN | apply Kd.R_drew)); exact Kd.R_mono HO113.out (fun _ hk => trivial), by repeat (first | (with_reducible first | exact HB.out | apply below_alloc | apply pw_below_drewN | apply below_drew1 | refine below_set ?_ GE103.out) | exact HB.out)⟩
      · rw [if_neg c9] at H
        exact absurd H (by simp)
    · rw [if_neg c7] at H
      have c7b0 : decide (a0 < (IntKind.u64.wrap (a1_0 + t104))) = false := decide_eq_false c7
      clear c7
      replace H := Option.bind_eq_some_iff.mp H
      obtain ⟨t114, A200, H⟩ := H
      replace H : ((some (([(⟨a1_0, IntKind.u64.wrap (a1_0 + t104)⟩ : S34)] : List (S34)) : List (S34))).bind fun y117 => (if t114.length + y117.length < 8796093022208 then (some (t114 ++ y117)) else (none))) = some r := H
      have A20 := Aside0.mk A200
      clear A200
      obtain ⟨y117, hy117⟩ : ∃ y_ : List (S34), y_ = (([(⟨a1_0, IntKind.u64.wrap (a1_0 + t104)⟩ : S34)] : List (S34))) := ⟨_, rfl⟩
      replace H : (if t114.length + y117.length < 8796093022208 then (some (t114 ++ y117)) else (none)) = some r := by first | (rw [hy117]; with_reducible exact H) | (have H2_ := (Option.bind_some _ _).symm.trans H; rw [hy117]; with_reducible exact H2_) | (have H2_ := (Option.bind_some _ _).symm.trans H; with_reducible exact H2_) | with_reducible exact H | (rw [hy117]; exact H) | exact H
      have Ny117 := Aside0.mk hy117
      clear hy117
      by_cases c21 : t114.length + y117.length < 8796093022208
      · rw [if_pos c21] at H
        have LMc21 := Aside0.mk c21
        clear c21
        obtain ⟨y120, hy120⟩ : ∃ y_ : List (S34), y_ = (t114 ++ y117) := ⟨_, rfl⟩
        replace H : (some y120) = some r := by first | (rw [hy120]; with_reducible exact H) | (have H2_ := (Option.bind_some _ _).symm.trans H; rw [hy120]; with_reducible exact H2_) | (have H2_ := (Option.bind_some _ _).symm.trans H; with_reducible exact H2_) | with_reducible exact H | (rw [hy120]; exact H) | exact H
        have Ny120 := Aside0.mk hy120
        clear hy120
        obtain rfl := Option.some.inj H
        go_enter Tryd.func101, Tryd.ntmps101
        try go_wp2_with (first | ((with_reducible refine gate_dst (N := 3) rfl ?_); refine box_event ?hg (N := 3) ?hd (cs := #[.int .u64 a1_0, .int .u64 a1_1]) (t := 34) ?hr ?_; (case hd => rfl); (case hg => rfl); (case hr => first | (go_simp; done) | (go_simp; rfl)); intro gb103 hg w22 hbox hb; have n0_ := Aside0.mk (below_step (by repeat (first | (with_reducible first | exact HB.out | apply below_alloc | apply pw_below_drewN | apply below_drew1) | exact HB.out)) hb); have n1_ := Aside0.mk (hbox); have n2_ := Aside0.mk ((by rw [hg]; exact (below_size (by repeat (first | (with_reducible first | exact HB.out | apply below_alloc | apply pw_below_drewN | apply below_drew1) | exact HB.out))) : w.heap.size ≤ gb103)); have n3_ := Aside0.mk ((by rw [hg]; exact (below_size (by repeat (first | (with_reducible first | exact HB.out | apply below_alloc | apply pw_below_drewN | apply below_drew1) | exact HB.out))) : w.heap.size ≤ gb103)); clear HB; have HB := n0_; have BK103 := n1_; have GW103 := n2_; have GE103 := n3_; clear n0_ n1_ n2_ n3_; clear hb hbox hg; have hcz23_0 : w22.cell? ⟨gb103, 0, none⟩ = some (.int .u64 a1_0) := (blk_cell BK103.out 0).trans rfl; have hcz23_1 : w22.cell? ⟨gb103, 1, none⟩ = some (.int .u64 a1_1) := (blk_cell BK103.out 1).trans rfl; have hfz23_0 := blk_frozen BK103.out 0; have hfz23_1 := blk_frozen BK103.out 1))
        have n0_ := Aside0.mk (blk_drew BK103.out)
        have n1_ := Aside0.mk (below_drew1 HB.out)
        clear BK103
        clear HB
        have BK103 := n0_
        have HB := n1_
        clear n0_ n1_
        refine start_ (n := 10) (S := fun w' => w'.cell? ⟨gb103, 0, none⟩ = some (.int .u64 a1_0) ∧ w'.cell? ⟨gb103, 1, none⟩ = some (.int .u64 a1_1)) (ds := []) #[false, false, false, false, false, false, false, false, false, false] (by kernel_rfl) rfl rfl ⟨(blk_cell BK103.out 0).trans rfl, (blk_cell BK103.out 1).trans rfl⟩ (fun hHeld => ?_); refine with_tabW spec_pathIn.tab3 spec_pathIn.bits3 (fun HT_ HW_ => ?_)
        generalize w22.drew = w24 at BK103 HB hHeld ⊢
        refine pure_ (i := 0) (N := some 12) (v := ?_) (a' := ?_) #[true, false, false, false, false, false, false, false, false, false] rfl rfl (any_of HT_.out (by kernel_rfl)) (fun _ _ _ h => h) (Or.inl ⟨by rfl, ?_⟩) ?_ ?_
        rotate_left
        · intro w'
          go_simp
          with_reducible rfl
        rotate_left
        · simp only [Act.put, List.setIfInBounds_toArray, List.set_cons_zero, List.set_cons_succ, i64_w, i32_w]
          rfl
        refine pure_ (i := 2) (N := some 14) (v := ?_) (a' := ?_) #[true, false, true, false, false, false, false, false, false, false] rfl rfl (any_of HT_.out (by kernel_rfl)) (fun _ _ _ h => h) (Or.inl ⟨by rfl, ?_⟩) ?_ ?_
        rotate_left
        · intro w'
          go_simp
          with_reducible rfl
        rotate_left
        · simp only [Act.put, List.setIfInBounds_toArray, List.set_cons_zero, List.set_cons_succ, i64_w, i32_w]
          rfl
        refine pure_ (i := 4) (N := some 16) (v := ?_) (a' := ?_) #[true, false, true, false, true, false, false, false, false, false] rfl rfl (any_of HT_.out (by kernel_rfl)) (fun _ _ _ h => h) (Or.inl ⟨by rfl, ?_⟩) ?_ ?_
        rotate_left
        · intro w'
          go_simp
          with_reducible rfl
        rotate_left
        · simp only [Act.put, List.setIfInBounds_toArray, List.set_cons_zero, List.set_cons_succ, i64_w, i32_w]
          rfl
        refine take_ (i := 1) (N := some 13) (v := ?_) (a' := ?_) #[true, true, true, false, true, false, false, false, false, false] rfl rfl (take_ofW HT_.out HW_.out (by kernel_rfl)) (fun _ _ _ h => h) (Or.inl ⟨by rfl, ?_⟩) hHeld ?_ ?_
        rotate_left
        · rintro w' ⟨s0, s1⟩
          go_simp
          with_reducible rfl
        rotate_left
        · simp only [Act.put, List.setIfInBounds_toArray, List.set_cons_zero, List.set_cons_succ, i64_w, i32_w]
          rfl
        refine take_ (i := 3) (N := some 15) (v := ?_) (a' := ?_) #[true, true, true, true, true, false, false, false, false, false] rfl rfl (take_ofW HT_.out HW_.out (by kernel_rfl)) (fun _ _ _ h => h) (Or.inl ⟨by rfl, ?_⟩) hHeld ?_ ?_
        rotate_left
        · rintro w' ⟨s0, s1⟩
          go_simp
          with_reducible rfl
        rotate_left
        · simp only [Act.put, List.setIfInBounds_toArray, List.set_cons_zero, List.set_cons_succ, i64_w, i32_w]
          rfl
        refine take_ (i := 5) (N := some 17) (v := ?_) (a' := ?_) #[true, true, true, true, true, true, false, false, false, false] rfl rfl (take_ofW HT_.out HW_.out (by kernel_rfl)) (fun _ _ _ h => h) (Or.inl ⟨by rfl, ?_⟩) hHeld ?_ ?_
        rotate_left
        · rintro w' ⟨s0, s1⟩
          go_simp
          with_reducible rfl
        rotate_left
        · simp only [Act.put, List.setIfInBounds_toArray, List.set_cons_zero, List.set_cons_succ, i64_w, i32_w]
          rfl
        refine pure_ (i := 6) (N := some 18) (v := ?_) (a' := ?_) #[true, true, true, true, true, true, true, false, false, false] rfl rfl (any_of HT_.out (by kernel_rfl)) (fun _ _ _ h => h) (Or.inl ⟨by rfl, ?_⟩) ?_ ?_
        rotate_left
        · intro w'
          go_simp
          with_reducible rfl
        rotate_left
        · simp only [Act.put, List.setIfInBounds_toArray, List.set_cons_zero, List.set_cons_succ, i64_w, i32_w]
          rfl
        refine one_ (i := 7) (N := some 19) #[true, true, true, true, true, true, true, true, false, false] rfl rfl (one_of HT_.out (by kernel_rfl)) (by decide) (fun K hK => ?_)
        refine goes_ Tryd.func85 (by kernel_rfl) rfl #[.int .u64 (IntKind.u64.wrap (a1_1 - a1_0))] (by rfl) rfl rfl (by (try simp only [List.map_toArray, List.map_cons, List.map_nil]); first | done | rfl | (simp only [List.length_drop, List.length_take]; rfl)) ?_
        with_reducible refine (spec_split.calls k (IntKind.u64.wrap (a1_1 - a1_0)) t104 _ A6.out).mono ?_
        rintro e w' ⟨rfl, ⟨nd, rfl⟩⟩
        refine ⟨_, rfl, ?_⟩
        refine hK.out _ _ ⟨(blk_cell BK103.out 0).trans rfl, (blk_cell BK103.out 1).trans rfl⟩ (fun hHeld => ?_)
        clear hK K
        refine norm_ (a' := ?_) ?_ ?_
        rotate_left
        · show Act.put _ (some 19) _ = _
          simp only [Act.put, List.setIfInBounds_toArray, List.set_cons_zero, List.set_cons_succ, i64_w, i32_w]
          rfl
        refine pure_ (i := 8) (N := some 20) (v := ?_) (a' := ?_) #[true, true, true, true, true, true, true, true, true, false] rfl rfl (any_of HT_.out (by kernel_rfl)) (fun _ _ _ h => h) (Or.inl ⟨by rfl, ?_⟩) ?_ ?_
        rotate_left
        · intro w'
          go_simp
          with_reducible rfl
        rotate_left
        · simp only [Act.put, List.setIfInBounds_toArray, List.set_cons_zero, List.set_cons_succ, i64_w, i32_w]
          rfl
        refine pure_ (i := 9) (N := some 5) (v := ?_) (a' := ?_) #[true, true, true, true, true, true, true, true, true, true] rfl rfl (any_of HT_.out (by kernel_rfl)) (fun _ _ _ h => h) (Or.inl ⟨by rfl, ?_⟩) ?_ ?_
        rotate_left
        · intro w'
          go_simp
          with_reducible rfl
        rotate_left
        · simp only [Act.put, List.setIfInBounds_toArray, List.set_cons_zero, List.set_cons_succ, i64_w, i32_w]
          rfl
        refine done_ (done_of HT_.out (by kernel_rfl)) ?_
        try go_wp2
        (try (rw [drewN_self w24]; generalize hq_ : World.drewN w24 _ = w24; have n0_ : Aside0 (w24.heap[gb103]? = some (.cells #[.int .u64 a1_0, .int .u64 a1_1] 34 (0, 0))) := ⟨by rw [← hq_]; exact (by (with_reducible repeat (first | refine blk_drewN ?_ _ | refine blk_drew ?_ | refine blk_alloc ?_ _)); exact BK103.out)⟩; have n1_ : Aside0 (Below w.heap.size w w24) := ⟨by rw [← hq_]; exact (by repeat (first | (with_reducible first | exact HB.out | apply below_alloc | apply pw_below_drewN | apply below_drew1 | refine below_set ?_ GE103.out) | exact HB.out))⟩; clear BK103 HB hq_; have BK103 := n0_; have HB := n1_; clear n0_ n1_))
        have n0_ := Aside0.mk (blk_drew BK103.out)
        have n1_ := Aside0.mk (below_drew1 HB.out)
        clear BK103
        clear HB
        have BK103 := n0_
        have HB := n1_
        clear n0_ n1_
        refine start_ (n := 13) (S := fun w' => w'.cell? ⟨gb103, 0, none⟩ = some (.int .u64 a1_0) ∧ w'.cell? ⟨gb103, 1, none⟩ = some (.int .u64 a1_1)) (ds := []) #[false, false, false, false, false, false, false, false, false, false, false, false, false] (by kernel_rfl) rfl rfl ⟨(blk_cell BK103.out 0).trans rfl, (blk_cell BK103.out 1).trans rfl⟩ (fun hHeld => ?_); refine with_tabW spec_pathIn.tab6 spec_pathIn.bits6 (fun HT_ HW_ => ?_)
        generalize w24.drew = w25 at BK103 HB hHeld ⊢
        refine pure_ (i := 0) (N := some 36) (v := ?_) (a' := ?_) #[true, false, false, false, false, false, false, false, false, false, false, false, false] rfl rfl (any_of HT_.out (by kernel_rfl)) (fun _ _ _ h => h) (Or.inl ⟨by rfl, ?_⟩) ?_ ?_
        rotate_left
        · intro w'
          go_simp
          with_reducible rfl
        rotate_left
        · simp only [Act.put, List.setIfInBounds_toArray, List.set_cons_zero, List.set_cons_succ, i64_w, i32_w]
          rfl
        refine pure_ (i := 1) (N := some 37) (v := ?_) (a' := ?_) #[true, true, false, false, false, false, false, false, false, false, false, false, false] rfl rfl (any_of HT_.out (by kernel_rfl)) (fun _ _ _ h => h) (Or.inl ⟨by rfl, ?_⟩) ?_ ?_
        rotate_left
        · intro w'
          go_simp
          with_reducible rfl
        rotate_left
        · simp only [Act.put, List.setIfInBounds_toArray, List.set_cons_zero, List.set_cons_succ, i64_w, i32_w]
          rfl
        refine pure_ (i := 2) (N := some 38) (v := ?_) (a' := ?_) #[true, true, true, false, false, false, false, false, false, false, false, false, false] rfl rfl (any_of HT_.out (by kernel_rfl)) (fun _ _ _ h => h) (Or.inl ⟨by rfl, ?_⟩) ?_ ?_
        rotate_left
        · intro w'
          go_simp
          with_reducible rfl
        rotate_left
        · simp only [Act.put, List.setIfInBounds_toArray, List.set_cons_zero, List.set_cons_succ, i64_w, i32_w]
          rfl
        refine pure_ (i := 6) (N := some 42) (v := ?_) (a' := ?_) #[true, true, true, false, false, false, true, false, false, false, false, false, false] rfl rfl (any_of HT_.out (by kernel_rfl)) (fun _ _ _ h => h) (Or.inl ⟨by rfl, ?_⟩) ?_ ?_
        rotate_left
        · intro w'
          go_simp
          with_reducible rfl
        rotate_left
        · simp only [Act.put, List.setIfInBounds_toArray, List.set_cons_zero, List.set_cons_succ, i64_w, i32_w]
          rfl
        refine pure_ (i := 8) (N := some 44) (v := ?_) (a' := ?_) #[true, true, true, false, false, false, true, false, true, false, false, false, false] rfl rfl (any_of HT_.out (by kernel_rfl)) (fun _ _ _ h => h) (Or.inl ⟨by rfl, ?_⟩) ?_ ?_
        rotate_left
        · intro w'
          go_simp
          with_reducible rfl
        rotate_left
        · simp only [Act.put, List.setIfInBounds_toArray, List.set_cons_zero, List.set_cons_succ, i64_w, i32_w]
          rfl
        refine take_ (i := 3) (N := some 39) (v := ?_) (a' := ?_) #[true, true, true, true, false, false, true, false, true, false, false, false, false] rfl rfl (take_ofW HT_.out HW_.out (by kernel_rfl)) (fun _ _ _ h => h) (Or.inl ⟨by rfl, ?_⟩) hHeld ?_ ?_
        rotate_left
        · rintro w' ⟨s0, s1⟩
          go_simp
          with_reducible rfl
        rotate_left
        · simp only [Act.put, List.setIfInBounds_toArray, List.set_cons_zero, List.set_cons_succ, i64_w, i32_w]
          rfl
        refine pure_ (i := 4) (N := some 40) (v := ?_) (a' := ?_) #[true, true, true, true, true, false, true, false, true, false, false, false, false] rfl rfl (any_of HT_.out (by kernel_rfl)) (fun _ _ _ h => h) (Or.inl ⟨by rfl, ?_⟩) ?_ ?_
        rotate_left
        · intro w'
          go_simp
          with_reducible rfl
        rotate_left
        · simp only [Act.put, List.setIfInBounds_toArray, List.set_cons_zero, List.set_cons_succ, i64_w, i32_w]
          rfl
        refine take_ (i := 7) (N := some 43) (v := ?_) (a' := ?_) #[true, true, true, true, true, false, true, true, true, false, false, false, false] rfl rfl (take_ofW HT_.out HW_.out (by kernel_rfl)) (fun _ _ _ h => h) (Or.inl ⟨by rfl, ?_⟩) hHeld ?_ ?_
        rotate_left
        · rintro w' ⟨s0, s1⟩
          go_simp
          with_reducible rfl
        rotate_left
        · simp only [Act.put, List.setIfInBounds_toArray, List.set_cons_zero, List.set_cons_succ, i64_w, i32_w]
          rfl
        refine pure_ (i := 9) (N := some 45) (v := ?_) (a' := ?_) #[true, true, true, true, true, false, true, true, true, true, false, false, false] rfl rfl (any_of HT_.out (by kernel_rfl)) (fun _ _ _ h => h) (Or.inl ⟨by rfl, ?_⟩) ?_ ?_
        rotate_left
        · intro w'
          go_simp
          with_reducible rfl
        rotate_left
        · simp only [Act.put, List.setIfInBounds_toArray, List.set_cons_zero, List.set_cons_succ, i64_w, i32_w]
          rfl
        refine join_ (σ := Value × Value) 2 #[true, true, true, true, true, true, true, true, true, true, true, false, false] (fun s_ => [(41, s_.1), (46, s_.2)]) (fun s_ w' => (w'.cell? ⟨gb103, 0, none⟩ = some (.int .u64 a1_0) ∧ w'.cell? ⟨gb103, 1, none⟩ = some (.int .u64 a1_1)) ∧ (Kd.R k34 34 w' w.heap.size (fun k_ => some k_ ≠ (s_.2 : Value).ownBlock ∧ k_ ≠ gb103) s_.1 t114) ∧ (Kd.R k34 34 w' w.heap.size (fun k_ => some k_ ≠ (s_.1 : Value).ownBlock ∧ k_ ≠ gb103) s_.2 y117) ∧ (w'.heap[gb103]? = some (.cells #[.int .u64 a1_0, .int .u64 a1_1] 34 (0, 0))) ∧ (Below w.heap.size w w')) ?_ ?_
        rotate_left
        · intro hCont
          refine two_ (i := 5) (j := 10) (Ni := some 41) (Nj := some 46) #[true, true, true, true, true, true, true, true, true, true, false, false, false] #[true, true, true, true, true, false, true, true, true, true, true, false, false] rfl rfl rfl rfl (two_of HT_.out (by kernel_rfl)) (by decide) (by decide) (fun K hK => ?_) (fun K hK => ?_)
          · skip
            refine goes_ Tryd.func101 (by kernel_rfl) rfl #[.int .u64 a0, .agg #[.int .u64 (IntKind.u64.wrap (a1_0 + t104)), .int .u64 a1_1]] (by rfl) rfl rfl (by (try simp only [List.map_toArray, List.map_cons, List.map_nil]); first | done | rfl | (simp only [List.length_drop, List.length_take]; rfl)) ?_
            with_reducible refine (ih k (by omega) a0 (IntKind.u64.wrap (a1_0 + t104)) a1_1 t114 _ A20.out).mono ?_
            rintro e w26 ⟨v115, rfl, ho0, hb⟩
            refine ⟨_, rfl, ?_⟩
            have n0_ := Aside0.mk (Kd.R_lower (Kd.R_newB ho0 (g := gb103) (o := .cells #[.int .u64 a1_0, .int .u64 a1_1] 34 (0, 0)) (by (with_reducible repeat (first | refine blk_drewN ?_ _ | refine blk_drew ?_ | refine blk_alloc ?_ _)); exact BK103.out)) (below_size (by repeat (first | (with_reducible first | exact HB.out | apply below_alloc | apply pw_below_drewN | apply below_drew1 | refine below_set ?_ GE103.out) | exact HB.out))))
            have n1_ := Aside0.mk (blk_below (g := gb103) (o := .cells #[.int .u64 a1_0, .int .u64 a1_1] 34 (0, 0)) (by (with_reducible repeat (first | refine blk_drewN ?_ _ | refine blk_drew ?_ | refine blk_alloc ?_ _)); exact BK103.out) hb)
            have n2_ := Aside0.mk (below_step (by repeat (first | (with_reducible first | exact HB.out | apply below_alloc | apply pw_below_drewN | apply below_drew1 | refine below_set ?_ GE103.out) | exact HB.out)) hb)
            clear BK103
            clear HB
            have HO116 := n0_
            have BK103 := n1_
            have HB := n2_
            clear n0_ n1_ n2_
            (try clear hb)
            (try clear hb2)
            (try clear hk)
            (try clear hi)
            (try clear ho0)
            refine hK.out _ _ ⟨(blk_cell BK103.out 0).trans rfl, (blk_cell BK103.out 1).trans rfl⟩ (fun hHeld => ?_)
            clear hK K
            refine norm_ (a' := ?_) ?_ ?_
            rotate_left
            · show Act.put _ (some 41) _ = _
              simp only [Act.put, List.setIfInBounds_toArray, List.set_cons_zero, List.set_cons_succ, i64_w, i32_w]
              rfl
            refine one_ (i := 10) (N := some 46) #[true, true, true, true, true, true, true, true, true, true, true, false, false] rfl rfl (one_of HT_.out (by kernel_rfl)) (by decide) (fun K hK => ?_)
            refine Kd.R_lit_step k34 _ 34 ?hg (N := 46) ?hd (xs := ([(⟨a1_0, IntKind.u64.wrap (a1_0 + t104)⟩ : S34)] : List (S34))) (inner := [.int .u64 a1_0, .int .u64 (IntKind.u64.wrap (a1_0 + t104))]) (ok := fun _ => True) (okp := fun _ => True) ?hr ?hp (fun _ hk => hk) trivial (Below.refl _ _) (Nat.le_refl _) (by simp) ?_; (case hd => rfl); (case hg => rfl); (case hr => first | (go_simp; done) | (go_simp; rfl)); (case hp => exact (Reps.c2 (show Kd.M k34 _ _ _ (⟨a1_0, IntKind.u64.wrap (a1_0 + t104)⟩ : S34) [.int .u64 a1_0, .int .u64 (IntKind.u64.wrap (a1_0 + t104))] from (k34_mkM _ _ _ (⟨a1_0, IntKind.u64.wrap (a1_0 + t104)⟩ : S34) )) (Reps.none _ _)))
            intro v118 w27 ho28 hb hg_ hnew_
            clear hg_ hnew_
            (first | rw [← Ny117.out] at ho28 | (simp only [Int.reduceToNat] at ho28; rw [← Ny117.out] at ho28))
            have n0_ := Aside0.mk (Kd.R_elder' (by (with_reducible repeat (first | apply Kd.R_alloc | apply Kd.R_drewN | apply Kd.R_drew)); exact HO116.out) (Kd.R_base ho28) hb)
            have n1_ := Aside0.mk (Kd.R_lower (Kd.R_newB (Kd.R_new' ho28 (Kd.R_lt (by (with_reducible repeat (first | apply Kd.R_alloc | apply Kd.R_drewN | apply Kd.R_drew)); exact HO116.out))) (g := gb103) (o := .cells #[.int .u64 a1_0, .int .u64 a1_1] 34 (0, 0)) (by (with_reducible repeat (first | refine blk_drewN ?_ _ | refine blk_drew ?_ | refine blk_alloc ?_ _)); exact BK103.out)) (below_size (by repeat (first | (with_reducible first | exact HB.out | apply below_alloc | apply pw_below_drewN | apply below_drew1 | refine below_set ?_ GE103.out) | exact HB.out))))
            have n2_ := Aside0.mk (blk_below (g := gb103) (o := .cells #[.int .u64 a1_0, .int .u64 a1_1] 34 (0, 0)) (by (with_reducible repeat (first | refine blk_drewN ?_ _ | refine blk_drew ?_ | refine blk_alloc ?_ _)); exact BK103.out) hb)
            have n3_ := Aside0.mk (below_step (by repeat (first | (with_reducible first | exact HB.out | apply below_alloc | apply pw_below_drewN | apply below_drew1 | refine below_set ?_ GE103.out) | exact HB.out)) hb)
            clear HO116
            clear BK103
            clear HB
            have HO116 := n0_
            have HO119 := n1_
            have BK103 := n2_
            have HB := n3_
            clear n0_ n1_ n2_ n3_
            clear hb ho28
            refine hK.out _ _ ⟨(blk_cell BK103.out 0).trans rfl, (blk_cell BK103.out 1).trans rfl⟩ (fun hHeld => ?_)
            clear hK K
            refine norm_ (a' := ?_) ?_ ?_
            rotate_left
            · show Act.put _ (some 46) _ = _
              simp only [Act.put, List.setIfInBounds_toArray, List.set_cons_zero, List.set_cons_succ, i64_w, i32_w]
              rfl
            exact norm_ (by simp only [putAll, Act.put, List.setIfInBounds_toArray, List.set_cons_zero, List.set_cons_succ]) (hCont (v115, v118) _ ⟨hHeld, (by (with_reducible repeat (first | apply Kd.R_alloc | apply Kd.R_drewN | apply Kd.R_drew)); exact Kd.R_mono HO116.out (fun _ hk => ⟨hk.2, hk.1.2⟩)), (by (with_reducible repeat (first | apply Kd.R_alloc | apply Kd.R_drewN | apply Kd.R_drew)); exact Kd.R_mono HO119.out (fun _ hk => ⟨hk.1.2, hk.2⟩)), (by (with_reducible repeat (first | refine blk_drewN ?_ _ | refine blk_drew ?_ | refine blk_alloc ?_ _)); exact BK103.out), (by repeat (first | (with_reducible first | exact HB.out | apply below_alloc | apply pw_below_drewN | apply below_drew1 | refine below_set ?_ GE103.out) | exact HB.out))⟩)
          · skip
            refine Kd.R_lit_step k34 _ 34 ?hg (N := 46) ?hd (xs := ([(⟨a1_0, IntKind.u64.wrap (a1_0 + t104)⟩ : S34)] : List (S34))) (inner := [.int .u64 a1_0, .int .u64 (IntKind.u64.wrap (a1_0 + t104))]) (ok := fun _ => True) (okp := fun _ => True) ?hr ?hp (fun _ hk => hk) trivial (Below.refl _ _) (Nat.le_refl _) (by simp) ?_; (case hd => rfl); (case hg => rfl); (case hr => first | (go_simp; done) | (go_simp; rfl)); (case hp => exact (Reps.c2 (show Kd.M k34 _ _ _ (⟨a1_0, IntKind.u64.wrap (a1_0 + t104)⟩ : S34) [.int .u64 a1_0, .int .u64 (IntKind.u64.wrap (a1_0 + t104))] from (k34_mkM _ _ _ (⟨a1_0, IntKind.u64.wrap (a1_0 + t104)⟩ : S34) )) (Reps.none _ _)))
            intro v118 w26 ho27 hb hg_ hnew_
            clear hg_ hnew_
            (first | rw [← Ny117.out] at ho27 | (simp only [Int.reduceToNat] at ho27; rw [← Ny117.out] at ho27))
            have n0_ := Aside0.mk (Kd.R_lower (Kd.R_newB ho27 (g := gb103) (o := .cells #[.int .u64 a1_0, .int .u64 a1_1] 34 (0, 0)) (by (with_reducible repeat (first | refine blk_drewN ?_ _ | refine blk_drew ?_ | refine blk_alloc ?_ _)); exact BK103.out)) (below_size (by repeat (first | (with_reducible first | exact HB.out | apply below_alloc | apply pw_below_drewN | apply below_drew1 | refine below_set ?_ GE103.out) | exact HB.out))))
            have n1_ := Aside0.mk (blk_below (g := gb103) (o := .cells #[.int .u64 a1_0, .int .u64 a1_1] 34 (0, 0)) (by (with_reducible repeat (first | refine blk_drewN ?_ _ | refine blk_drew ?_ | refine blk_alloc ?_ _)); exact BK103.out) hb)
            have n2_ := Aside0.mk (below_step (by repeat (first | (with_reducible first | exact HB.out | apply below_alloc | apply pw_below_drewN | apply below_drew1 | refine below_set ?_ GE103.out) | exact HB.out)) hb)
            clear BK103
            clear HB
            have HO119 := n0_
            have BK103 := n1_
            have HB := n2_
            clear n0_ n1_ n2_
            clear hb ho27
            refine hK.out _ _ ⟨(blk_cell BK103.out 0).trans rfl, (blk_cell BK103.out 1).trans rfl⟩ (fun hHeld => ?_)
            clear hK K
            refine norm_ (a' := ?_) ?_ ?_
            rotate_left
            · show Act.put _ (some 46) _ = _
              simp only [Act.put, List.setIfInBounds_toArray, List.set_cons_zero, List.set_cons_succ, i64_w, i32_w]
              rfl
            refine one_ (i := 5) (N := some 41) #[true, true, true, true, true, true, true, true, true, true, true, false, false] rfl rfl (one_of HT_.out (by kernel_rfl)) (by decide) (fun K hK => ?_)
            refine goes_ Tryd.func101 (by kernel_rfl) rfl #[.int .u64 a0, .agg #[.int .u64 (IntKind.u64.wrap (a1_0 + t104)), .int .u64 a1_1]] (by rfl) rfl rfl (by (try simp only [List.map_toArray, List.map_cons, List.map_nil]); first | done | rfl | (simp only [List.length_drop, List.length_take]; rfl)) ?_
            with_reducible refine (ih k (by omega) a0 (IntKind.u64.wrap (a1_0 + t104)) a1_1 t114 _ A20.out).mono ?_
            rintro e w28 ⟨v115, rfl, ho0, hb⟩
            refine ⟨_, rfl, ?_⟩
            have n0_ := Aside0.mk (Kd.R_elder' (by (with_reducible repeat (first | apply Kd.R_alloc | apply Kd.R_drewN | apply Kd.R_drew)); exact HO119.out) (Kd.R_base ho0) hb)
            have n1_ := Aside0.mk (Kd.R_lower (Kd.R_newB (Kd.R_new' ho0 (Kd.R_lt (by (with_reducible repeat (first | apply Kd.R_alloc | apply Kd.R_drewN | apply Kd.R_drew)); exact HO119.out))) (g := gb103) (o := .cells #[.int .u64 a1_0, .int .u64 a1_1] 34 (0, 0)) (by (with_reducible repeat (first | refine blk_drewN ?_ _ | refine blk_drew ?_ | refine blk_alloc ?_ _)); exact BK103.out)) (below_size (by repeat (first | (with_reducible first | exact HB.out | apply below_alloc | apply pw_below_drewN | apply below_drew1 | refine below_set ?_ GE103.out) | exact HB.out))))
            have n2_ := Aside0.mk (blk_below (g := gb103) (o := .cells #[.int .u64 a1_0, .int .u64 a1_1] 34 (0, 0)) (by (with_reducible repeat (first | refine blk_drewN ?_ _ | refine blk_drew ?_ | refine blk_alloc ?_ _)); exact BK103.out) hb)
            have n3_ := Aside0.mk (below_step (by repeat (first | (with_reducible first | exact HB.out | apply below_alloc | apply pw_below_drewN | apply below_drew1 | refine below_set ?_ GE103.out) | exact HB.out)) hb)
            clear HO119
            clear BK103
            clear HB
            have HO119 := n0_
            have HO116 := n1_
            have BK103 := n2_
            have HB := n3_
            clear n0_ n1_ n2_ n3_
            (try clear hb)
            (try clear hb2)
            (try clear hk)
            (try clear hi)
            (try clear ho0)
            refine hK.out _ _ ⟨(blk_cell BK103.out 0).trans rfl, (blk_cell BK103.out 1).trans rfl⟩ (fun hHeld => ?_)
            clear hK K
            refine norm_ (a' := ?_) ?_ ?_
            rotate_left
            · show Act.put _ (some 41) _ = _
              simp only [Act.put, List.setIfInBounds_toArray, List.set_cons_zero, List.set_cons_succ, i64_w, i32_w]
              rfl
            exact norm_ (by simp only [putAll, Act.put, List.setIfInBounds_toArray, List.set_cons_zero, List.set_cons_succ]) (hCont (v115, v118) _ ⟨hHeld, (by (with_reducible repeat (first | apply Kd.R_alloc | apply Kd.R_drewN | apply Kd.R_drew)); exact Kd.R_mono HO116.out (fun _ hk => ⟨hk.1.2, hk.2⟩)), (by (with_reducible repeat (first | apply Kd.R_alloc | apply Kd.R_drewN | apply Kd.R_drew)); exact Kd.R_mono HO119.out (fun _ hk => ⟨hk.2, hk.1.2⟩)), (by (with_reducible repeat (first | refine blk_drewN ?_ _ | refine blk_drew ?_ | refine blk_alloc ?_ _)); exact BK103.out), (by repeat (first | (with_reducible first | exact HB.out | apply below_alloc | apply pw_below_drewN | apply below_drew1 | refine below_set ?_ GE103.out) | exact HB.out))⟩)
        rintro ⟨v115, v118⟩ w29 ⟨hS_, h0_, h1_, h2_, h3_⟩
        have n0_ : Aside0 (Kd.R k34 34 w29 w.heap.size (fun k_ => some k_ ≠ (v118 : Value).ownBlock ∧ k_ ≠ gb103) v115 t114) := ⟨h0_⟩
        have n1_ : Aside0 (Kd.R k34 34 w29 w.heap.size (fun k_ => some k_ ≠ (v115 : Value).ownBlock ∧ k_ ≠ gb103) v118 y117) := ⟨h1_⟩
        have n2_ : Aside0 (w29.heap[gb103]? = some (.cells #[.int .u64 a1_0, .int .u64 a1_1] 34 (0, 0))) := ⟨h2_⟩
        have n3_ : Aside0 (Below w.heap.size w w29) := ⟨h3_⟩
        clear BK103
        clear HB
        clear h0_ h1_ h2_ h3_
        have HO116 := n0_
        have HO119 := n1_
        have BK103 := n2_
        have HB := n3_
        clear n0_ n1_ n2_ n3_
        have hHeld : w29.cell? ⟨gb103, 0, none⟩ = some (.int .u64 a1_0) ∧ w29.cell? ⟨gb103, 1, none⟩ = some (.int .u64 a1_1) := hS_
        obtain ⟨Ao31, co31, eo31⟩ := Kd.R_slice HO119.out
        (first | subst eo31 | (injection eo31 with f1_ f2_ f3_; have f4_ := f1_.symm; have f5_ := f3_.symm; clear f1_ f2_ f3_; subst f4_; subst f5_))
        refine norm_ (a' := ?_) ?_ ?_
        rotate_left
        · simp only [putAll, Act.put, List.setIfInBounds_toArray, List.set_cons_zero, List.set_cons_succ]
          rfl
        refine one_ (i := 11) (N := some 47) #[true, true, true, true, true, true, true, true, true, true, true, true, false] rfl rfl (one_of HT_.out (by kernel_rfl)) (by decide) (fun K hK => ?_)
        refine Kd.R_append_rows_step k34 (w0 := w) w.heap.size (by rfl) (.tmp 41) (.tmp 46) 60 34 (.agg #[(.int .u64 0), (.int .u64 0)]) 16 rfl Tryd.underlying60 info34 rfl (by decide) (by omega) v115 t114 y117 _ _ _ (fun k_ => some k_ ≠ (.slice Ao31 y117.length co31 : Value).ownBlock ∧ k_ ≠ gb103) (fun _ => False) rfl rfl ?aO ?aR (fun _ _ h => h) (fun _ h => h.elim) ?aF ?aB ?aS ?aL ?_
        (case aR => repeat (first | exact (Kd.R_reads' HO119.out).2.2 | (with_reducible refine Kd.C_alloc ?_ _) | (with_reducible refine Kd.C_drewN ?_ _) | (with_reducible refine Kd.C_drew ?_)))
        (case aB => exact (by repeat (first | (with_reducible first | exact HB.out | apply below_alloc | apply pw_below_drewN | apply below_drew1 | refine below_set ?_ GE103.out) | exact HB.out)))
        (case aF => exact (fun k_ hk => ⟨Kd.fresh' (Kd.R_lt (by (with_reducible repeat (first | apply Kd.R_alloc | apply Kd.R_drewN | apply Kd.R_drew)); exact HO119.out)) k_ hk, Kd.freshB (g := gb103) (o := .cells #[.int .u64 a1_0, .int .u64 a1_1] 34 (0, 0)) (by (with_reducible repeat (first | refine blk_drewN ?_ _ | refine blk_drew ?_ | refine blk_alloc ?_ _)); exact BK103.out) k_ hk⟩))
        (case aO => exact (by (with_reducible repeat (first | apply Kd.R_alloc | apply Kd.R_drewN | apply Kd.R_drew)); exact HO116.out))
        (case aS => exact (below_size (by repeat (first | (with_reducible first | exact HB.out | apply below_alloc | apply pw_below_drewN | apply below_drew1 | refine below_set ?_ GE103.out) | exact HB.out))))
        (case aL => have := LMc21.out; omega)
        intro v121 w30 ho hb hg hat
        rw [← Ny120.out] at ho
        have n0_ := Aside0.mk (blk_grown (g := gb103) (o := .cells #[.int .u64 a1_0, .int .u64 a1_1] 34 (0, 0)) (by (with_reducible repeat (first | refine blk_drewN ?_ _ | refine blk_drew ?_ | refine blk_alloc ?_ _)); exact BK103.out) hg (Kd.R_away HO116.out (fun _ hk => hk.2)))
        have n1_ := Aside0.mk (Kd.R_after (ok := (fun k_ => k_ ≠ gb103)) (by (with_reducible repeat (first | apply Kd.R_alloc | apply Kd.R_drewN | apply Kd.R_drew)); exact Kd.R_mono HO119.out (fun _ hk => ⟨hk.2, hk.1⟩)) hg hat)
        have n2_ := Aside0.mk (hb)
        have n3_ := Aside0.mk (ho)
        clear BK103
        clear HO119
        clear HB
        clear HO116
        have BK103 := n0_
        have HO119 := n1_
        have HB := n2_
        have HO122 := n3_
        clear n0_ n1_ n2_ n3_
        clear ho hb hg hat
        refine hK.out _ _ ⟨(blk_cell BK103.out 0).trans rfl, (blk_cell BK103.out 1).trans rfl⟩ (fun hHeld => ?_)
        clear hK K
        refine norm_ (a' := ?_) ?_ ?_
        rotate_left
        · show Act.put _ (some 47) _ = _
          simp only [Act.put, List.setIfInBounds_toArray, List.set_cons_zero, List.set_cons_succ, i64_w, i32_w]
          rfl
        refine pure_ (i := 12) (N := some 4) (v := ?_) (a' := ?_) #[true, true, true, true, true, true, true, true, true, true, true, true, true] rfl rfl (any_of HT_.out (by kernel_rfl)) (fun _ _ _ h => h) (Or.inl ⟨by rfl, ?_⟩) ?_ ?_
        rotate_left
        · intro w'
          go_simp
          with_reducible rfl
        rotate_left
        · simp only [Act.put, List.setIfInBounds_toArray, List.set_cons_zero, List.set_cons_succ, i64_w, i32_w]
          rfl
        refine done_ (done_of HT_.out (by kernel_rfl)) ?_
        try go_wp2
        go_ret
        exact ⟨_, by first | rfl | (simp [errW_none, errW_some] <;> rfl) | (simp [*, errW_none, errW_some] <;> rfl), by (with_reducible repeat (first | apply Kd.R_alloc | apply Kd.R_drewN | apply Kd.R_drew)); exact Kd.R_mono HO122.out (fun _ hk => trivial), by repeat (first | (with_reducible first | exact HB.out | apply below_alloc | apply pw_below_drewN | apply below_drew1 | refine below_set ?_ GE103.out) | exact HB.out)⟩
      · rw [if_neg c21] at H
        exact absurd H (by simp)
def spec_PathParts.f (k : Nat) (a0 : Int) (a1 : Int) : Option ((List (S34))) := (spec_pathIn.f k a0 0 a1).bind fun t123 => (some t123)
theorem spec_PathParts.mono : ∀ a0 a1 k, LeO (spec_PathParts.f k a0 a1) (spec_PathParts.f (k + 1) a0 a1) := by
  intro a0 a1 k
  unfold spec_PathParts.f
  repeat' first
      | (with_reducible exact spec_pathIn.mono _ _ _ _)
      | (with_reducible exact LeO.refl _)
      | (with_reducible exact LeO.none _)
      | (with_reducible refine LeO.ite ?_ ?_)
      | (with_reducible refine LeO.bind ?_ (fun _ => ?_))
      | exact spec_pathIn.mono _ _ _ _
      | exact LeO.none _
      | refine LeO.ite ?_ ?_
      | refine LeO.bind ?_ (fun _ => ?_)
set_option maxHeartbeats 8000000 in
set_option maxRecDepth 100000 in
theorem spec_PathParts.calls (k : Nat) (a0 : Int) (a1 : Int) (r : List (S34)) (w : World) (h : spec_PathParts.f k a0 a1 = some r) :
    Calls Tryd.prog 49 #[.int .u64 a0, .int .u64 a1] w fun e w' => ∃ v0_ : Value, e = .returned (v0_) ∧ Kd.R k34 34 w' w.heap.size (fun _ => True) v0_ r ∧ Below w.heap.size w w' := by
  have hu34 := Tryd.underlying34
  have HB := Aside0.mk (Below.refl w.heap.size w)
  have H : ((spec_pathIn.f k a0 0 a1).bind fun t123 => (some t123)) = some r := h
  clear h
  replace H := Option.bind_eq_some_iff.mp H
  obtain ⟨t123, A30, H⟩ := H
  replace H : (some t123) = some r := H
  have A3 := Aside0.mk A30
  clear A30
  obtain rfl := Option.some.inj H
  go_enter Tryd.func49, Tryd.ntmps49
  go_wp2_with (first | ((with_reducible refine gate_callee (f := 101) rfl ?_); refine goesL_ (some 8) rfl rfl Tryd.func101 (by kernel_rfl) rfl #[.int .u64 a0, .agg #[.int .u64 0, .int .u64 a1]] rfl (by (try simp only [List.map_toArray, List.map_cons, List.map_nil]); first | done | rfl | (simp only [List.length_drop, List.length_take]; rfl)) ?_; (with_reducible refine (spec_pathIn.calls k a0 0 a1 t123 _ A3.out).mono ?_); rintro e w4 ⟨v124, rfl, ho0, hb⟩; refine ⟨_, rfl, ?_⟩; have n0_ := Aside0.mk (Kd.R_lower ho0 (below_size (by repeat (first | (with_reducible first | exact HB.out | apply below_alloc | apply pw_below_drewN | apply below_drew1) | exact HB.out)))); have n1_ := Aside0.mk (below_step (by repeat (first | (with_reducible first | exact HB.out | apply below_alloc | apply pw_below_drewN | apply below_drew1) | exact HB.out)) hb); clear HB; have HO125 := n0_; have HB := n1_; clear n0_ n1_; (try clear hb); (try clear hb2); (try clear hk); (try clear hi); (try clear ho0)))
  go_ret
  exact ⟨_, by first | rfl | (simp [errW_none, errW_some] <;> rfl) | (simp [*, errW_none, errW_some] <;> rfl), by (with_reducible repeat (first | apply Kd.R_alloc | apply Kd.R_drewN | apply Kd.R_drew)); exact HO125.out, by repeat (first | (with_reducible first | exact HB.out | apply below_alloc | apply pw_below_drewN | apply below_drew1) | exact HB.out)⟩
end Go.Proofs.YtijldedhcjkhiaaDoor.T
