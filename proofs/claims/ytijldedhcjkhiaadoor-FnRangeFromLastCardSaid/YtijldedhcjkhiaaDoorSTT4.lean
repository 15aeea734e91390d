import Derived.Test.YtijldedhcjkhiaaDoorSTT0
import Derived.Test.YtijldedhcjkhiaaDoorSTT3
namespace Go.Proofs.YtijldedhcjkhiaaDoor.T
open Go.RowKit Go.Proofs.YtijldedhcjkhiaaDoorW.PrintWords Go.Proofs.YtijldedhcjkhiaaDoorW.PrintLast Go.Proofs.YtijldedhcjkhiaaDoorW.PrintMore
attribute [local go_sem] max2_int min2_int max_two min_two max_three min_three max_four min_four   -- for this text's walks alone
set_option linter.unusedVariables false
set_option linter.unusedSimpArgs false
def impl_toy_HashChildren.f (k : Nat) (a0_0 : Int) (a0_1 : Int) (a0_2 : Int) (a0_3 : Int) (a0_4 : Int) (a0_5 : Int) (l1 : List Int) (l2 : List Int) : Option (List Int) := if a0_0 = 1 then ((impl_mixed.f k a0_5 l1).bind fun t145 => ((impl_mixed.f k t145 (([255] : List Int))).bind fun t149 => ((impl_mixed.f k t149 l2).bind fun t150 => ((impl_word.f k t150 a0_2).bind fun t151 => (some t151))))) else ((some (([1] : List Int) : List Int)).bind fun y154 => ((impl_word.f k (IntKind.u64.wrap ((l1.length : Int))) 8).bind fun t157 => (if y154.length + t157.length < 140737488355328 then ((some (y154 ++ t157 : List Int)).bind fun y160 => (if y160.length + l1.length < 140737488355328 then ((some (y160 ++ l1 : List Int)).bind fun y163 => (if y163.length + l2.length < 140737488355328 then (some (y163 ++ l2)) else (none))) else (none))) else (none))))
theorem impl_toy_HashChildren.mono : ∀ a0 a1 a2 a3 a4 a5 a6 a7 k, LeO (impl_toy_HashChildren.f k a0 a1 a2 a3 a4 a5 a6 a7) (impl_toy_HashChildren.f (k + 1) a0 a1 a2 a3 a4 a5 a6 a7) := by
  intro a0 a1 a2 a3 a4 a5 a6 a7 k
  unfold impl_toy_HashChildren.f
  repeat' first
      | (with_reducible exact impl_mixed.mono _ _ _)
      | (with_reducible exact impl_word.mono _ _ _)
      | (with_reducible exact LeO.refl _)
      | (with_reducible exact LeO.none _)
      | (with_reducible refine LeO.ite ?_ ?_)
      | (with_reducible refine LeO.bind ?_ (fun _ => ?_))
      | exact impl_mixed.mono _ _ _
      | exact impl_word.mono _ _ _
      | exact LeO.none _
      | refine LeO.ite ?_ ?_
      | refine LeO.bind ?_ (fun _ => ?_)
def impl_toy_HashChildren.T2 : Bool × List (List Nat × List Nat) := (true, [([], []), ([0], [0]), ([1], [1]), ([], []), ([2, 3], [2, 3]), ([], []), ([4, 5, 4], [4, 5]), ([], []), ([6, 7, 6], [6, 7]), ([], []), ([9], [9]), ([10], [10]), ([8, 11, 8], [8, 11]), ([12, 12, 0, 1, 2, 3, 4, 5, 6, 7, 8, 9, 10, 11, 12], [12])])
def impl_toy_HashChildren.B2 : List Nat := [0, 1, 3, 0, 15, 0, 63, 0, 255, 0, 512, 1536, 4095, 8191]
theorem impl_toy_HashChildren.tab2 : rtab .any (opsOf Tryd.f68 2) = impl_toy_HashChildren.T2 := by kernel_rfl
theorem impl_toy_HashChildren.bits2 : waitsOk impl_toy_HashChildren.T2.2 impl_toy_HashChildren.B2 = true := by kernel_rfl
set_option maxHeartbeats 8000000 in
set_option maxRecDepth 100000 in
theorem impl_toy_HashChildren.calls (k : Nat) (a0_0 : Int) (a0_1 : Int) (a0_2 : Int) (a0_3 : Int) (a0_4 : Int) (a0_5 : Int) (A1 : Option Addr) (c1 : Nat) (l1 : List Int) (A2 : Option Addr) (c2 : Nat) (l2 : List Int) (r : List Int) (w : World) (hr1 : Kd.C (Kd.int .u8) w A1 l1.length l1) (hc1 : l1.length ≤ c1) (hr2 : Kd.C (Kd.int .u8) w A2 l2.length l2) (hc2 : l2.length ≤ c2) (h : impl_toy_HashChildren.f k a0_0 a0_1 a0_2 a0_3 a0_4 a0_5 l1 l2 = some r) :
    Calls Tryd.prog 68 #[.agg #[.int .i64 a0_0, .int .i64 a0_1, .int .i64 a0_2, .int .u64 a0_3, .int .u64 a0_4, .int .u64 a0_5], .slice A1 l1.length c1, .slice A2 l2.length c2] w fun e w' => ∃ v0_ : Value, e = .returned (v0_) ∧ Kd.R (Kd.int .u8) 5 w' w.heap.size (fun _ => True) v0_ r ∧ Below w.heap.size w w' := by
  have hu114 := Tryd.underlying114
  have HR1 := Aside0.mk hr1
  have HC1 := Aside0.mk hc1
  clear hr1 hc1
  have HR2 := Aside0.mk hr2
  have HC2 := Aside0.mk hc2
  clear hr2 hc2
  have HB := Aside0.mk (Below.refl w.heap.size w)
  have H : (if a0_0 = 1 then ((impl_mixed.f k a0_5 l1).bind fun t145 => ((impl_mixed.f k t145 (([255] : List Int))).bind fun t149 => ((impl_mixed.f k t149 l2).bind fun t150 => ((impl_word.f k t150 a0_2).bind fun t151 => (some t151))))) else ((some (([1] : List Int) : List Int)).bind fun y154 => ((impl_word.f k (IntKind.u64.wrap ((l1.length : Int))) 8).bind fun t157 => (if y154.length + t157.length < 140737488355328 then ((some (y154 ++ t157 : List Int)).bind fun y160 => (if y160.length + l1.length < 140737488355328 then ((some (y160 ++ l1 : List Int)).bind fun y163 => (if y163.length + l2.length < 140737488355328 then (some (y163 ++ l2)) else (none))) else (none))) else (none))))) = some r := h
  clear h
  by_cases c4 : a0_0 = 1
  · rw [if_pos c4] at H
    have c4b0 : (a0_0 == 1) = true := beq_iff_eq.mpr c4
    have c4b1 : (a0_0 != 1) = false := bne_eq_false_iff_eq.mpr c4
    clear c4
    replace H := Option.bind_eq_some_iff.mp H
    obtain ⟨t145, A50, H⟩ := H
    replace H : ((impl_mixed.f k t145 (([255] : List Int))).bind fun t149 => ((impl_mixed.f k t149 l2).bind fun t150 => ((impl_word.f k t150 a0_2).bind fun t151 => (some t151)))) = some r := H
    have A5 := Aside0.mk A50
    clear A50
    obtain ⟨y146, hy146⟩ : ∃ y_ : List Int, y_ = (([255] : List Int)) := ⟨_, rfl⟩
    replace H : ((impl_mixed.f k t145 y146).bind fun t149 => ((impl_mixed.f k t149 l2).bind fun t150 => ((impl_word.f k t150 a0_2).bind fun t151 => (some t151)))) = some r := by first | (rw [hy146]; with_reducible exact H) | (have H2_ := (Option.bind_some _ _).symm.trans H; rw [hy146]; with_reducible exact H2_) | (have H2_ := (Option.bind_some _ _).symm.trans H; with_reducible exact H2_) | with_reducible exact H | (rw [hy146]; exact H) | exact H
    have Ny146 := Aside0.mk hy146
    clear hy146
    replace H := Option.bind_eq_some_iff.mp H
    obtain ⟨t149, A60, H⟩ := H
    replace H : ((impl_mixed.f k t149 l2).bind fun t150 => ((impl_word.f k t150 a0_2).bind fun t151 => (some t151))) = some r := H
    have A6 := Aside0.mk A60
    clear A60
    replace H := Option.bind_eq_some_iff.mp H
    obtain ⟨t150, A70, H⟩ := H
    replace H : ((impl_word.f k t150 a0_2).bind fun t151 => (some t151)) = some r := H
    have A7 := Aside0.mk A70
    clear A70
    replace H := Option.bind_eq_some_iff.mp H
    obtain ⟨t151, A80, H⟩ := H
    replace H : (some t151) = some r := H
    have A8 := Aside0.mk A80
    clear A80
    obtain rfl := Option.some.inj H
    go_enter Tryd.func68, Tryd.ntmps68
    try go_wp2_with (first | ((with_reducible refine gate_dst (N := 3) rfl ?_); refine box_event ?hg (N := 3) ?hd (cs := #[.int .i64 a0_0, .int .i64 a0_1, .int .i64 a0_2, .int .u64 a0_3, .int .u64 a0_4, .int .u64 a0_5]) (t := 114) ?hr ?_; (case hd => rfl); (case hg => rfl); (case hr => first | (go_simp; done) | (go_simp; rfl)); intro gb144 hg w9 hbox hb; have n0_ := Aside0.mk (below_step (by repeat (first | (with_reducible first | exact HB.out | apply below_alloc | apply pw_below_drewN | apply below_drew1) | exact HB.out)) hb); have n1_ := Aside0.mk (hbox); have n2_ := Aside0.mk ((by rw [hg]; exact (below_size (by repeat (first | (with_reducible first | exact HB.out | apply below_alloc | apply pw_below_drewN | apply below_drew1) | exact HB.out))) : w.heap.size ≤ gb144)); have n3_ := Aside0.mk ((by rw [hg]; exact (below_size (by repeat (first | (with_reducible first | exact HB.out | apply below_alloc | apply pw_below_drewN | apply below_drew1) | exact HB.out))) : w.heap.size ≤ gb144)); clear HB; have HB := n0_; have BK144 := n1_; have GW144 := n2_; have GE144 := n3_; clear n0_ n1_ n2_ n3_; clear hb hbox hg; have hcz10_0 : w9.cell? ⟨gb144, 0, none⟩ = some (.int .i64 a0_0) := (blk_cell BK144.out 0).trans rfl; have hcz10_1 : w9.cell? ⟨gb144, 1, none⟩ = some (.int .i64 a0_1) := (blk_cell BK144.out 1).trans rfl; have hcz10_2 : w9.cell? ⟨gb144, 2, none⟩ = some (.int .i64 a0_2) := (blk_cell BK144.out 2).trans rfl; have hcz10_3 : w9.cell? ⟨gb144, 3, none⟩ = some (.int .u64 a0_3) := (blk_cell BK144.out 3).trans rfl; have hcz10_4 : w9.cell? ⟨gb144, 4, none⟩ = some (.int .u64 a0_4) := (blk_cell BK144.out 4).trans rfl; have hcz10_5 : w9.cell? ⟨gb144, 5, none⟩ = some (.int .u64 a0_5) := (blk_cell BK144.out 5).trans rfl; have hfz10_0 := blk_frozen BK144.out 0; have hfz10_1 := blk_frozen BK144.out 1; have hfz10_2 := blk_frozen BK144.out 2; have hfz10_3 := blk_frozen BK144.out 3; have hfz10_4 := blk_frozen BK144.out 4; have hfz10_5 := blk_frozen BK144.out 5))
    have n0_ := Aside0.mk (blk_drew BK144.out)
    have n1_ := Aside0.mk (below_drew1 HB.out)
    clear BK144
    clear HB
    have BK144 := n0_
    have HB := n1_
    clear n0_ n1_
    refine start_ (n := 14) (S := fun w' => w'.cell? ⟨gb144, 0, none⟩ = some (.int .i64 a0_0) ∧ w'.cell? ⟨gb144, 1, none⟩ = some (.int .i64 a0_1) ∧ w'.cell? ⟨gb144, 2, none⟩ = some (.int .i64 a0_2) ∧ w'.cell? ⟨gb144, 3, none⟩ = some (.int .u64 a0_3) ∧ w'.cell? ⟨gb144, 4, none⟩ = some (.int .u64 a0_4) ∧ w'.cell? ⟨gb144, 5, none⟩ = some (.int .u64 a0_5)) (ds := []) #[false, false, false, false, false, false, false, false, false, false, false, false, false, false] (by kernel_rfl) rfl rfl ⟨(blk_cell BK144.out 0).trans rfl, (blk_cell BK144.out 1).trans rfl, (blk_cell BK144.out 2).trans rfl, (blk_cell BK144.out 3).trans rfl, (blk_cell BK144.out 4).trans rfl, (blk_cell BK144.out 5).trans rfl⟩ (fun hHeld => ?_); refine with_tabW impl_toy_HashChildren.tab2 impl_toy_HashChildren.bits2 (fun HT_ HW_ => ?_)
    generalize w9.drew = w11 at BK144 HB hHeld ⊢
    refine pure_ (i := 0) (N := some 12) (v := ?_) (a' := ?_) #[true, false, false, false, false, false, false, false, false, false, false, false, false, false] rfl rfl (any_of HT_.out (by kernel_rfl)) (fun _ _ _ h => h) (Or.inl ⟨by rfl, ?_⟩) ?_ ?_
    rotate_left
    · intro w'
      go_simp
      with_reducible rfl
    rotate_left
    · simp only [Act.put, List.setIfInBounds_toArray, List.set_cons_zero, List.set_cons_succ, i64_w, i32_w]
      rfl
    refine pure_ (i := 1) (N := some 13) (v := ?_) (a' := ?_) #[true, true, false, false, false, false, false, false, false, false, false, false, false, false] rfl rfl (any_of HT_.out (by kernel_rfl)) (fun _ _ _ h => h) (Or.inl ⟨by rfl, ?_⟩) ?_ ?_
    rotate_left
    · intro w'
      go_simp
      with_reducible rfl
    rotate_left
    · simp only [Act.put, List.setIfInBounds_toArray, List.set_cons_zero, List.set_cons_succ, i64_w, i32_w]
      rfl
    refine pure_ (i := 3) (N := some 15) (v := ?_) (a' := ?_) #[true, true, false, true, false, false, false, false, false, false, false, false, false, false] rfl rfl (any_of HT_.out (by kernel_rfl)) (fun _ _ _ h => h) (Or.inl ⟨by rfl, ?_⟩) ?_ ?_
    rotate_left
    · intro w'
      go_simp
      with_reducible rfl
    rotate_left
    · simp only [Act.put, List.setIfInBounds_toArray, List.set_cons_zero, List.set_cons_succ, i64_w, i32_w]
      rfl
    refine pure_ (i := 7) (N := some 19) (v := ?_) (a' := ?_) #[true, true, false, true, false, false, false, true, false, false, false, false, false, false] rfl rfl (any_of HT_.out (by kernel_rfl)) (fun _ _ _ h => h) (Or.inl ⟨by rfl, ?_⟩) ?_ ?_
    rotate_left
    · intro w'
      go_simp
      with_reducible rfl
    rotate_left
    · simp only [Act.put, List.setIfInBounds_toArray, List.set_cons_zero, List.set_cons_succ, i64_w, i32_w]
      rfl
    refine pure_ (i := 9) (N := some 21) (v := ?_) (a' := ?_) #[true, true, false, true, false, false, false, true, false, true, false, false, false, false] rfl rfl (any_of HT_.out (by kernel_rfl)) (fun _ _ _ h => h) (Or.inl ⟨by rfl, ?_⟩) ?_ ?_
    rotate_left
    · intro w'
      go_simp
      with_reducible rfl
    rotate_left
    · simp only [Act.put, List.setIfInBounds_toArray, List.set_cons_zero, List.set_cons_succ, i64_w, i32_w]
      rfl
    refine pure_ (i := 10) (N := some 22) (v := ?_) (a' := ?_) #[true, true, false, true, false, false, false, true, false, true, true, false, false, false] rfl rfl (any_of HT_.out (by kernel_rfl)) (fun _ _ _ h => h) (Or.inl ⟨by rfl, ?_⟩) ?_ ?_
    rotate_left
    · intro w'
      go_simp
      with_reducible rfl
    rotate_left
    · simp only [Act.put, List.setIfInBounds_toArray, List.set_cons_zero, List.set_cons_succ, i64_w, i32_w]
      rfl
    refine take_ (i := 2) (N := some 14) (v := ?_) (a' := ?_) #[true, true, true, true, false, false, false, true, false, true, true, false, false, false] rfl rfl (take_ofW HT_.out HW_.out (by kernel_rfl)) (fun _ _ _ h => h) (Or.inl ⟨by rfl, ?_⟩) hHeld ?_ ?_
    rotate_left
    · rintro w' ⟨s0, s1, s2, s3, s4, s5⟩
      go_simp
      with_reducible rfl
    rotate_left
    · simp only [Act.put, List.setIfInBounds_toArray, List.set_cons_zero, List.set_cons_succ, i64_w, i32_w]
      rfl
    refine take_ (i := 11) (N := some 23) (v := ?_) (a' := ?_) #[true, true, true, true, false, false, false, true, false, true, true, true, false, false] rfl rfl (take_ofW HT_.out HW_.out (by kernel_rfl)) (fun _ _ _ h => h) (Or.inl ⟨by rfl, ?_⟩) hHeld ?_ ?_
    rotate_left
    · rintro w' ⟨s0, s1, s2, s3, s4, s5⟩
      go_simp
      with_reducible rfl
    rotate_left
    · simp only [Act.put, List.setIfInBounds_toArray, List.set_cons_zero, List.set_cons_succ, i64_w, i32_w]
      rfl
    refine join_ (σ := Value) 4 #[true, true, true, true, true, true, false, true, false, true, true, true, false, false] (fun s_ => [(16, .int .u64 t145), (17, s_)]) (fun s_ w' => (w'.cell? ⟨gb144, 0, none⟩ = some (.int .i64 a0_0) ∧ w'.cell? ⟨gb144, 1, none⟩ = some (.int .i64 a0_1) ∧ w'.cell? ⟨gb144, 2, none⟩ = some (.int .i64 a0_2) ∧ w'.cell? ⟨gb144, 3, none⟩ = some (.int .u64 a0_3) ∧ w'.cell? ⟨gb144, 4, none⟩ = some (.int .u64 a0_4) ∧ w'.cell? ⟨gb144, 5, none⟩ = some (.int .u64 a0_5)) ∧ (Kd.R (Kd.int .u8) 5 w' w.heap.size (fun _ => True) s_ y146) ∧ (w'.heap[gb144]? = some (.cells #[.int .i64 a0_0, .int .i64 a0_1, .int .i64 a0_2, .int .u64 a0_3, .int .u64 a0_4, .int .u64 a0_5] 114 (0, 0))) ∧ (Below w.heap.size w w')) ?_ ?_
    rotate_left
    · intro hCont
      refine two_ (i := 4) (j := 5) (Ni := some 16) (Nj := some 17) #[true, true, true, true, true, false, false, true, false, true, true, true, false, false] #[true, true, true, true, false, true, false, true, false, true, true, true, false, false] rfl rfl rfl rfl (two_of HT_.out (by kernel_rfl)) (by decide) (by decide) (fun K hK => ?_) (fun K hK => ?_)
      · skip
        refine goes_ Tryd.func113 (by kernel_rfl) rfl #[.int .u64 a0_5, .slice A1 l1.length c1] (by rfl) rfl rfl (by (try simp only [List.map_toArray, List.map_cons, List.map_nil]); first | done | rfl | (simp only [List.length_drop, List.length_take]; rfl)) ?_
        with_reducible refine (impl_mixed.calls k a0_5 _ _ l1 t145 _ ?side1 ?side2 A5.out).mono ?_
        (case side1 => repeat (first | exact (Kd.C_below HR1.out HB.out) | (with_reducible refine Kd.C_alloc ?_ _) | (with_reducible refine Kd.C_drewN ?_ _) | (with_reducible refine Kd.C_drew ?_)))
        (case side2 => exact HC1.out)
        rintro e w' ⟨rfl, ⟨nd, rfl⟩⟩
        refine ⟨_, rfl, ?_⟩
        refine hK.out _ _ ⟨(blk_cell BK144.out 0).trans rfl, (blk_cell BK144.out 1).trans rfl, (blk_cell BK144.out 2).trans rfl, (blk_cell BK144.out 3).trans rfl, (blk_cell BK144.out 4).trans rfl, (blk_cell BK144.out 5).trans rfl⟩ (fun hHeld => ?_)
        clear hK K
        refine norm_ (a' := ?_) ?_ ?_
        rotate_left
        · show Act.put _ (some 16) _ = _
          simp only [Act.put, List.setIfInBounds_toArray, List.set_cons_zero, List.set_cons_succ, i64_w, i32_w]
          rfl
        refine one_ (i := 5) (N := some 17) #[true, true, true, true, true, true, false, true, false, true, true, true, false, false] rfl rfl (one_of HT_.out (by kernel_rfl)) (by decide) (fun K hK => ?_)
        refine Kd.R_lit_step (Kd.int .u8) _ 5 ?hg (N := 17) ?hd (xs := ([255] : List Int)) (inner := [.int .u8 255]) (ok := fun _ => True) (okp := fun _ => True) ?hr ?hp (fun _ hk => hk) trivial (Below.refl _ _) (Nat.le_refl _) (by simp) ?_; (case hd => rfl); (case hg => rfl); (case hr => first | (go_simp; done) | (go_simp; rfl)); (case hp => exact (Reps.one (show Kd.M (Kd.int .u8) _ _ _ 255 [.int .u8 255] from rfl) (Reps.none _ _)))
        intro v147 w12 ho13 hb hg_ hnew_
        clear hg_ hnew_
        (first | rw [← Ny146.out] at ho13 | (simp only [Int.reduceToNat] at ho13; rw [← Ny146.out] at ho13))
        have n0_ := Aside0.mk (Kd.R_lower ho13 (below_size (by repeat (first | (with_reducible first | exact HB.out | apply below_alloc | apply pw_below_drewN | apply below_drew1 | refine below_set ?_ GE144.out) | exact HB.out))))
        have n1_ := Aside0.mk (blk_below (g := gb144) (o := .cells #[.int .i64 a0_0, .int .i64 a0_1, .int .i64 a0_2, .int .u64 a0_3, .int .u64 a0_4, .int .u64 a0_5] 114 (0, 0)) (by (with_reducible repeat (first | refine blk_drewN ?_ _ | refine blk_drew ?_ | refine blk_alloc ?_ _)); exact BK144.out) hb)
        have n2_ := Aside0.mk (below_step (by repeat (first | (with_reducible first | exact HB.out | apply below_alloc | apply pw_below_drewN | apply below_drew1 | refine below_set ?_ GE144.out) | exact HB.out)) hb)
        clear BK144
        clear HB
        have HO148 := n0_
        have BK144 := n1_
        have HB := n2_
        clear n0_ n1_ n2_
        clear hb ho13
        refine hK.out _ _ ⟨(blk_cell BK144.out 0).trans rfl, (blk_cell BK144.out 1).trans rfl, (blk_cell BK144.out 2).trans rfl, (blk_cell BK144.out 3).trans rfl, (blk_cell BK144.out 4).trans rfl, (blk_cell BK144.out 5).trans rfl⟩ (fun hHeld => ?_)
        clear hK K
        refine norm_ (a' := ?_) ?_ ?_
        rotate_left
        · show Act.put _ (some 17) _ = _
          simp only [Act.put, List.setIfInBounds_toArray, List.set_cons_zero, List.set_cons_succ, i64_w, i32_w]
          rfl
        exact norm_ (by simp only [putAll, Act.put, List.setIfInBounds_toArray, List.set_cons_zero, List.set_cons_succ]) (hCont (v147) _ ⟨hHeld, (by (with_reducible repeat (first | apply Kd.R_alloc | apply Kd.R_drewN | apply Kd.R_drew)); exact HO148.out), (by (with_reducible repeat (first | refine blk_drewN ?_ _ | refine blk_drew ?_ | refine blk_alloc ?_ _)); exact BK144.out), (by repeat (first | (with_reducible first | exact HB.out | apply below_alloc | apply pw_below_drewN | apply below_drew1 | refine below_set ?_ GE144.out) | exact HB.out))⟩)
      · skip
        refine Kd.R_lit_step (Kd.int .u8) _ 5 ?hg (N := 17) ?hd (xs := ([255] : List Int)) (inner := [.int .u8 255]) (ok := fun _ => True) (okp := fun _ => True) ?hr ?hp (fun _ hk => hk) trivial (Below.refl _ _) (Nat.le_refl _) (by simp) ?_; (case hd => rfl); (case hg => rfl); (case hr => first | (go_simp; done) | (go_simp; rfl)); (case hp => exact (Reps.one (show Kd.M (Kd.int .u8) _ _ _ 255 [.int .u8 255] from rfl) (Reps.none _ _)))
        intro v147 w12 ho13 hb hg_ hnew_
        clear hg_ hnew_
        (first | rw [← Ny146.out] at ho13 | (simp only [Int.reduceToNat] at ho13; rw [← Ny146.out] at ho13))
        have n0_ := Aside0.mk (Kd.R_lower ho13 (below_size (by repeat (first | (with_reducible first | exact HB.out | apply below_alloc | apply pw_below_drewN | apply below_drew1 | refine below_set ?_ GE144.out) | exact HB.out))))
        have n1_ := Aside0.mk (blk_below (g := gb144) (o := .cells #[.int .i64 a0_0, .int .i64 a0_1, .int .i64 a0_2, .int .u64 a0_3, .int .u64 a0_4, .int .u64 a0_5] 114 (0, 0)) (by (with_reducible repeat (first | refine blk_drewN ?_ _ | refine blk_drew ?_ | refine blk_alloc ?_ _)); exact BK144.out) hb)
        have n2_ := Aside0.mk (below_step (by repeat (first | (with_reducible first | exact HB.out | apply below_alloc | apply pw_below_drewN | apply below_drew1 | refine below_set ?_ GE144.out) | exact HB.out)) hb)
        clear BK144
        clear HB
        have HO148 := n0_
        have BK144 := n1_
        have HB := n2_
        clear n0_ n1_ n2_
        clear hb ho13
        refine hK.out _ _ ⟨(blk_cell BK144.out 0).trans rfl, (blk_cell BK144.out 1).trans rfl, (blk_cell BK144.out 2).trans rfl, (blk_cell BK144.out 3).trans rfl, (blk_cell BK144.out 4).trans rfl, (blk_cell BK144.out 5).trans rfl⟩ (fun hHeld => ?_)
        clear hK K
        refine norm_ (a' := ?_) ?_ ?_
        rotate_left
        · show Act.put _ (some 17) _ = _
          simp only [Act.put, List.setIfInBounds_toArray, List.set_cons_zero, List.set_cons_succ, i64_w, i32_w]
          rfl
        refine one_ (i := 4) (N := some 16) #[true, true, true, true, true, true, false, true, false, true, true, true, false, false] rfl rfl (one_of HT_.out (by kernel_rfl)) (by decide) (fun K hK => ?_)
        refine goes_ Tryd.func113 (by kernel_rfl) rfl #[.int .u64 a0_5, .slice A1 l1.length c1] (by rfl) rfl rfl (by (try simp only [List.map_toArray, List.map_cons, List.map_nil]); first | done | rfl | (simp only [List.length_drop, List.length_take]; rfl)) ?_
        with_reducible refine (impl_mixed.calls k a0_5 _ _ l1 t145 _ ?side1 ?side2 A5.out).mono ?_
        (case side1 => repeat (first | exact (Kd.C_below HR1.out HB.out) | (with_reducible refine Kd.C_alloc ?_ _) | (with_reducible refine Kd.C_drewN ?_ _) | (with_reducible refine Kd.C_drew ?_)))
        (case side2 => exact HC1.out)
        rintro e w' ⟨rfl, ⟨nd, rfl⟩⟩
        refine ⟨_, rfl, ?_⟩
        refine hK.out _ _ ⟨(blk_cell BK144.out 0).trans rfl, (blk_cell BK144.out 1).trans rfl, (blk_cell BK144.out 2).trans rfl, (blk_cell BK144.out 3).trans rfl, (blk_cell BK144.out 4).trans rfl, (blk_cell BK144.out 5).trans rfl⟩ (fun hHeld => ?_)
        clear hK K
        refine norm_ (a' := ?_) ?_ ?_
        rotate_left
        · show Act.put _ (some 16) _ = _
          simp only [Act.put, List.setIfInBounds_toArray, List.set_cons_zero, List.set_cons_succ, i64_w, i32_w]
          rfl
        exact norm_ (by simp only [putAll, Act.put, List.setIfInBounds_toArray, List.set_cons_zero, List.set_cons_succ]) (hCont (v147) _ ⟨hHeld, (by (with_reducible repeat (first | apply Kd.R_alloc | apply Kd.R_drewN | apply Kd.R_drew)); exact HO148.out), (by (with_reducible repeat (first | refine blk_drewN ?_ _ | refine blk_drew ?_ | refine blk_alloc ?_ _)); exact BK144.out), (by repeat (first | (with_reducible first | exact HB.out | apply below_alloc | apply pw_below_drewN | apply below_drew1 | refine below_set ?_ GE144.out) | exact HB.out))⟩)
    rintro v147 w14 ⟨hS_, h0_, h1_, h2_⟩
    have n0_ : Aside0 (Kd.R (Kd.int .u8) 5 w14 w.heap.size (fun _ => True) v147 y146) := ⟨h0_⟩
    have n1_ : Aside0 (w14.heap[gb144]? = some (.cells #[.int .i64 a0_0, .int .i64 a0_1, .int .i64 a0_2, .int .u64 a0_3, .int .u64 a0_4, .int .u64 a0_5] 114 (0, 0))) := ⟨h1_⟩
    have n2_ : Aside0 (Below w.heap.size w w14) := ⟨h2_⟩
    clear BK144
    clear HB
    clear h0_ h1_ h2_
    have HO148 := n0_
    have BK144 := n1_
    have HB := n2_
    clear n0_ n1_ n2_
    have hHeld : w14.cell? ⟨gb144, 0, none⟩ = some (.int .i64 a0_0) ∧ w14.cell? ⟨gb144, 1, none⟩ = some (.int .i64 a0_1) ∧ w14.cell? ⟨gb144, 2, none⟩ = some (.int .i64 a0_2) ∧ w14.cell? ⟨gb144, 3, none⟩ = some (.int .u64 a0_3) ∧ w14.cell? ⟨gb144, 4, none⟩ = some (.int .u64 a0_4) ∧ w14.cell? ⟨gb144, 5, none⟩ = some (.int .u64 a0_5) := hS_
    obtain ⟨Ao15, co15, eo15⟩ := Kd.R_slice HO148.out
    (first | subst eo15 | (injection eo15 with f1_ f2_ f3_; have f4_ := f1_.symm; have f5_ := f3_.symm; clear f1_ f2_ f3_; subst f4_; subst f5_))
    refine norm_ (a' := ?_) ?_ ?_
    rotate_left
    · simp only [putAll, Act.put, List.setIfInBounds_toArray, List.set_cons_zero, List.set_cons_succ]
      rfl
    refine one_ (i := 6) (N := some 18) #[true, true, true, true, true, true, true, true, false, true, true, true, false, false] rfl rfl (one_of HT_.out (by kernel_rfl)) (by decide) (fun K hK => ?_)
    refine goes_ Tryd.func113 (by kernel_rfl) rfl #[.int .u64 t145, .slice Ao15 y146.length co15] (by rfl) rfl rfl (by (try simp only [List.map_toArray, List.map_cons, List.map_nil]); first | done | rfl | (simp only [List.length_drop, List.length_take]; rfl)) ?_
    with_reducible refine (impl_mixed.calls k t145 _ _ y146 t149 _ ?side1 ?side2 A6.out).mono ?_
    (case side1 => repeat (first | exact (Kd.R_reads' HO148.out).2.2 | (with_reducible refine Kd.C_alloc ?_ _) | (with_reducible refine Kd.C_drewN ?_ _) | (with_reducible refine Kd.C_drew ?_)))
    (case side2 => exact (Kd.R_reads' HO148.out).2.1)
    rintro e w' ⟨rfl, ⟨nd, rfl⟩⟩
    refine ⟨_, rfl, ?_⟩
    refine hK.out _ _ ⟨(blk_cell BK144.out 0).trans rfl, (blk_cell BK144.out 1).trans rfl, (blk_cell BK144.out 2).trans rfl, (blk_cell BK144.out 3).trans rfl, (blk_cell BK144.out 4).trans rfl, (blk_cell BK144.out 5).trans rfl⟩ (fun hHeld => ?_)
    clear hK K
    refine norm_ (a' := ?_) ?_ ?_
    rotate_left
    · show Act.put _ (some 18) _ = _
      simp only [Act.put, List.setIfInBounds_toArray, List.set_cons_zero, List.set_cons_succ, i64_w, i32_w]
      rfl
    refine one_ (i := 8) (N := some 20) #[true, true, true, true, true, true, true, true, true, true, true, true, false, false] rfl rfl (one_of HT_.out (by kernel_rfl)) (by decide) (fun K hK => ?_)
    refine goes_ Tryd.func113 (by kernel_rfl) rfl #[.int .u64 t149, .slice A2 l2.length c2] (by rfl) rfl rfl (by (try simp only [List.map_toArray, List.map_cons, List.map_nil]); first | done | rfl | (simp only [List.length_drop, List.length_take]; rfl)) ?_
    with_reducible refine (impl_mixed.calls k t149 _ _ l2 t150 _ ?side1 ?side2 A7.out).mono ?_
    (case side1 => repeat (first | exact (Kd.C_below HR2.out (by repeat (first | (with_reducible first | exact HB.out | apply below_alloc | apply pw_below_drewN | apply below_drew1 | refine below_set ?_ GE144.out) | exact HB.out))) | (with_reducible refine Kd.C_alloc ?_ _) | (with_reducible refine Kd.C_drewN ?_ _) | (with_reducible refine Kd.C_drew ?_)))
    (case side2 => exact HC2.out)
    rintro e w' ⟨rfl, ⟨nd, rfl⟩⟩
    refine ⟨_, rfl, ?_⟩
    refine hK.out _ _ ⟨(blk_cell BK144.out 0).trans rfl, (blk_cell BK144.out 1).trans rfl, (blk_cell BK144.out 2).trans rfl, (blk_cell BK144.out 3).trans rfl, (blk_cell BK144.out 4).trans rfl, (blk_cell BK144.out 5).trans rfl⟩ (fun hHeld => ?_)
    clear hK K
    refine norm_ (a' := ?_) ?_ ?_
    rotate_left
    · show Act.put _ (some 20) _ = _
      simp only [Act.put, List.setIfInBounds_toArray, List.set_cons_zero, List.set_cons_succ, i64_w, i32_w]
      rfl
    refine one_ (i := 12) (N := some 24) #[true, true, true, true, true, true, true, true, true, true, true, true, true, false] rfl rfl (one_of HT_.out (by kernel_rfl)) (by decide) (fun K hK => ?_)
    refine goes_ Tryd.func112 (by kernel_rfl) rfl #[.int .u64 t150, .int .i64 a0_2] (by rfl) rfl rfl (by (try simp only [List.map_toArray, List.map_cons, List.map_nil]); first | done | rfl | (simp only [List.length_drop, List.length_take]; rfl)) ?_
    with_reducible refine (impl_word.calls k t150 a0_2 t151 _ A8.out).mono ?_
    rintro e w16 ⟨v152, rfl, ho0, hb⟩
    refine ⟨_, rfl, ?_⟩
    have n0_ := Aside0.mk (Kd.R_elder' (by (with_reducible repeat (first | apply Kd.R_alloc | apply Kd.R_drewN | apply Kd.R_drew)); exact HO148.out) (Kd.R_base ho0) hb)
    have n1_ := Aside0.mk (Kd.R_lower (Kd.R_new' ho0 (Kd.R_lt (by (with_reducible repeat (first | apply Kd.R_alloc | apply Kd.R_drewN | apply Kd.R_drew)); exact HO148.out))) (below_size (by repeat (first | (with_reducible first | exact HB.out | apply below_alloc | apply pw_below_drewN | apply below_drew1 | refine below_set ?_ GE144.out) | exact HB.out))))
    have n2_ := Aside0.mk (blk_below (g := gb144) (o := .cells #[.int .i64 a0_0, .int .i64 a0_1, .int .i64 a0_2, .int .u64 a0_3, .int .u64 a0_4, .int .u64 a0_5] 114 (0, 0)) (by (with_reducible repeat (first | refine blk_drewN ?_ _ | refine blk_drew ?_ | refine blk_alloc ?_ _)); exact BK144.out) hb)
    have n3_ := Aside0.mk (below_step (by repeat (first | (with_reducible first | exact HB.out | apply below_alloc | apply pw_below_drewN | apply below_drew1 | refine below_set ?_ GE144.out) | exact HB.out)) hb)
    clear HO148
    clear BK144
    clear HB
    have HO148 := n0_
    have HO153 := n1_
    have BK144 := n2_
    have HB := n3_
    clear n0_ n1_ n2_ n3_
    (try clear hb)
    (try clear hb2)
    (try clear hk)
    (try clear hi)
    (try clear ho0)
    refine hK.out _ _ ⟨(blk_cell BK144.out 0).trans rfl, (blk_cell BK144.out 1).trans rfl, (blk_cell BK144.out 2).trans rfl, (blk_cell BK144.out 3).trans rfl, (blk_cell BK144.out 4).trans rfl, (blk_cell BK144.out 5).trans rfl⟩ (fun hHeld => ?_)
    clear hK K
    refine norm_ (a' := ?_) ?_ ?_
    rotate_left
    · show Act.put _ (some 24) _ = _
      simp only [Act.put, List.setIfInBounds_toArray, List.set_cons_zero, List.set_cons_succ, i64_w, i32_w]
      rfl
    refine pure_ (i := 13) (N := some 6) (v := ?_) (a' := ?_) #[true, true, true, true, true, true, true, true, true, true, true, true, true, true] rfl rfl (any_of HT_.out (by kernel_rfl)) (fun _ _ _ h => h) (Or.inl ⟨by rfl, ?_⟩) ?_ ?_
    rotate_left
    · intro w'
      go_simp
      with_reducible rfl
    rotate_left
    · simp only [Act.put, List.setIfInBounds_toArray, List.set_cons_zero, List.set_cons_succ, i64_w, i32_w]
      rfl
    refine done_ (done_of HT_.out (by kernel_rfl)) ?_
    try go_wp2
    go_ret
    exact ⟨_, by first | rfl | (simp [errW_none, errW_some] <;> rfl) | (simp [*, errW_none, errW_some] <;> rfl), by (with_reducible repeat (first | apply Kd.R_alloc | apply Kd.R_drewN | apply Kd.R_drew)); exact Kd.R_mono HO153.out (fun _ hk => trivial), by repeat (first | (with_reducible first | exact HB.out | apply below_alloc | apply pw_below_drewN | apply below_drew1 | refine below_set ?_ GE144.out) | exact HB.out)⟩
  · rw [if_neg c4] at H
    have c4b0 : (a0_0 == 1) = false := beq_eq_false_iff_ne.mpr c4
    have c4b1 : (a0_0 != 1) = true := bne_iff_ne.mpr c4
    obtain ⟨y154, hy154⟩ : ∃ y_ : List Int, y_ = (([1] : List Int)) := ⟨_, rfl⟩
    replace H : ((impl_word.f k (IntKind.u64.wrap ((l1.length : Int))) 8).bind fun t157 => (if y154.length + t157.length < 140737488355328 then ((some (y154 ++ t157 : List Int)).bind fun y160 => (if y160.length + l1.length < 140737488355328 then ((some (y160 ++ l1 : List Int)).bind fun y163 => (if y163.length + l2.length < 140737488355328 then (some (y163 ++ l2)) else (none))) else (none))) else (none))) = some r := by first | (rw [hy154]; with_reducible exact H) | (have H2_ := (Option.bind_some _ _).symm.trans H; rw [hy154]; with_reducible exact H2_) | (have H2_ := (Option.bind_some _ _).symm.trans H; with_reducible exact H2_) | with_reducible exact H | (rw [hy154]; exact H) | exact H
    have Ny154 := Aside0.mk hy154
    clear hy154
    replace H := Option.bind_eq_some_iff.mp H
    obtain ⟨t157, A170, H⟩ := H
    replace H : (if y154.length + t157.length < 140737488355328 then ((some (y154 ++ t157 : List Int)).bind fun y160 => (if y160.length + l1.length < 140737488355328 then ((some (y160 ++ l1 : List Int)).bind fun y163 => (if y163.length + l2.length < 140737488355328 then (some (y163 ++ l2)) else (none))) else (none))) else (none)) = some r := H
    have A17 := Aside0.mk A170
    clear A170
    by_cases c18 : y154.length + t157.length < 140737488355328
    · rw [if_pos c18] at H
      have LMc18 := Aside0.mk c18
      clear c18
      obtain ⟨y160, hy160⟩ : ∃ y_ : List Int, y_ = (y154 ++ t157) := ⟨_, rfl⟩
      replace H : (if y160.length + l1.length < 140737488355328 then ((some (y160 ++ l1 : List Int)).bind fun y163 => (if y163.length + l2.length < 140737488355328 then (some (y163 ++ l2)) else (none))) else (none)) = some r := by first | (rw [hy160]; with_reducible exact H) | (have H2_ := (Option.bind_some _ _).symm.trans H; rw [hy160]; with_reducible exact H2_) | (have H2_ := (Option.bind_some _ _).symm.trans H; with_reducible exact H2_) | with_reducible exact H | (rw [hy160]; exact H) | exact H
      have Ny160 := Aside0.mk hy160
      clear hy160
      by_cases c19 : y160.length + l1.length < 140737488355328
      · rw [if_pos c19] at H
        have LMc19 := Aside0.mk c19
        clear c19
        obtain ⟨y163, hy163⟩ : ∃ y_ : List Int, y_ = (y160 ++ l1) := ⟨_, rfl⟩
        replace H : (if y163.length + l2.length < 140737488355328 then (some (y163 ++ l2)) else (none)) = some r := by first | (rw [hy163]; with_reducible exact H) | (have H2_ := (Option.bind_some _ _).symm.trans H; rw [hy163]; with_reducible exact H2_) | (have H2_ := (Option.bind_some _ _).symm.trans H; with_reducible exact H2_) | with_reducible exact H | (rw [hy163]; exact H) | exact H
        have Ny163 := Aside0.mk hy163
        clear hy163
        by_cases c20 : y163.length + l2.length < 140737488355328
        · rw [if_pos c20] at H
          have LMc20 := Aside0.mk c20
          clear c20
          obtain ⟨y166, hy166⟩ : ∃ y_ : List Int, y_ = (y163 ++ l2) := ⟨_, rfl⟩
          replace H : (some y166) = some r := by first | (rw [hy166]; with_reducible exact H) | (have H2_ := (Option.bind_some _ _).symm.trans H; rw [hy166]; with_reducible exact H2_) | (have H2_ := (Option.bind_some _ _).symm.trans H; with_reducible exact H2_) | with_reducible exact H | (rw [hy166]; exact H) | exact H
          have Ny166 := Aside0.mk hy166
          clear hy166
          obtain rfl := Option.some.inj H
          go_enter Tryd.func68, Tryd.ntmps68
          go_wp2_with (first | ((with_reducible refine gate_dst (N := 3) rfl ?_); refine box_event ?hg (N := 3) ?hd (cs := #[.int .i64 a0_0, .int .i64 a0_1, .int .i64 a0_2, .int .u64 a0_3, .int .u64 a0_4, .int .u64 a0_5]) (t := 114) ?hr ?_; (case hd => rfl); (case hg => rfl); (case hr => first | (go_simp; done) | (go_simp; rfl)); intro gb144 hg w21 hbox hb; have n0_ := Aside0.mk (below_step (by repeat (first | (with_reducible first | exact HB.out | apply below_alloc | apply pw_below_drewN | apply below_drew1) | exact HB.out)) hb); have n1_ := Aside0.mk (hbox); have n2_ := Aside0.mk ((by rw [hg]; exact (below_size (by repeat (first | (with_reducible first | exact HB.out | apply below_alloc | apply pw_below_drewN | apply below_drew1) | exact HB.out))) : w.heap.size ≤ gb144)); have n3_ := Aside0.mk ((by rw [hg]; exact (below_size (by repeat (first | (with_reducible first | exact HB.out | apply below_alloc | apply pw_below_drewN | apply below_drew1) | exact HB.out))) : w.heap.size ≤ gb144)); clear HB; have HB := n0_; have BK144 := n1_; have GW144 := n2_; have GE144 := n3_; clear n0_ n1_ n2_ n3_; clear hb hbox hg; have hcz22_0 : w21.cell? ⟨gb144, 0, none⟩ = some (.int .i64 a0_0) := (blk_cell BK144.out 0).trans rfl; have hcz22_1 : w21.cell? ⟨gb144, 1, none⟩ = some (.int .i64 a0_1) := (blk_cell BK144.out 1).trans rfl; have hcz22_2 : w21.cell? ⟨gb144, 2, none⟩ = some (.int .i64 a0_2) := (blk_cell BK144.out 2).trans rfl; have hcz22_3 : w21.cell? ⟨gb144, 3, none⟩ = some (.int .u64 a0_3) := (blk_cell BK144.out 3).trans rfl; have hcz22_4 : w21.cell? ⟨gb144, 4, none⟩ = some (.int .u64 a0_4) := (blk_cell BK144.out 4).trans rfl; have hcz22_5 : w21.cell? ⟨gb144, 5, none⟩ = some (.int .u64 a0_5) := (blk_cell BK144.out 5).trans rfl; have hfz22_0 := blk_frozen BK144.out 0; have hfz22_1 := blk_frozen BK144.out 1; have hfz22_2 := blk_frozen BK144.out 2; have hfz22_3 := blk_frozen BK144.out 3; have hfz22_4 := blk_frozen BK144.out 4; have hfz22_5 := blk_frozen BK144.out 5) | ((with_reducible refine gate_dst (N := 25) rfl ?_); refine Kd.R_lit (Kd.int .u8) _ 5 ?hg (N := 25) ?hd (xs := ([1] : List Int)) (inner := [.int .u8 1]) (ok := fun _ => True) (okp := fun _ => True) ?hr ?hp (fun _ hk => hk) trivial (Below.refl _ _) (Nat.le_refl _) (by simp) ?_; (case hd => rfl); (case hg => rfl); (case hr => first | (go_simp; done) | (go_simp; rfl)); (case hp => exact (Reps.one (show Kd.M (Kd.int .u8) _ _ _ 1 [.int .u8 1] from rfl) (Reps.none _ _))); intro v155 w23 ho24 hb hg_ hnew_; clear hg_ hnew_; (first | rw [← Ny154.out] at ho24 | (simp only [Int.reduceToNat] at ho24; rw [← Ny154.out] at ho24)); have n0_ := Aside0.mk (Kd.R_lower ho24 (below_size (by repeat (first | (with_reducible first | exact HB.out | apply below_alloc | apply pw_below_drewN | apply below_drew1 | refine below_set ?_ GE144.out) | exact HB.out)))); have n1_ := Aside0.mk (blk_below (g := gb144) (o := .cells #[.int .i64 a0_0, .int .i64 a0_1, .int .i64 a0_2, .int .u64 a0_3, .int .u64 a0_4, .int .u64 a0_5] 114 (0, 0)) (by (with_reducible repeat (first | refine blk_drewN ?_ _ | refine blk_drew ?_ | refine blk_alloc ?_ _)); exact BK144.out) hb); have n2_ := Aside0.mk (below_step (by repeat (first | (with_reducible first | exact HB.out | apply below_alloc | apply pw_below_drewN | apply below_drew1 | refine below_set ?_ GE144.out) | exact HB.out)) hb); clear BK144; clear HB; have HO156 := n0_; have BK144 := n1_; have HB := n2_; clear n0_ n1_ n2_; clear hb ho24) | ((with_reducible refine gate_callee (f := 112) rfl ?_); refine goesL_ (some 29) rfl rfl Tryd.func112 (by kernel_rfl) rfl #[.int .u64 (IntKind.u64.wrap ((l1.length : Int))), .int .i64 8] rfl (by (try simp only [List.map_toArray, List.map_cons, List.map_nil]); first | done | rfl | (simp only [List.length_drop, List.length_take]; rfl)) ?_; (with_reducible refine (impl_word.calls k (IntKind.u64.wrap ((l1.length : Int))) 8 t157 _ A17.out).mono ?_); rintro e w25 ⟨v158, rfl, ho0, hb⟩; refine ⟨_, rfl, ?_⟩; have n0_ := Aside0.mk (Kd.R_elder' (by (with_reducible repeat (first | apply Kd.R_alloc | apply Kd.R_drewN | apply Kd.R_drew)); exact HO156.out) (Kd.R_base ho0) hb); have n1_ := Aside0.mk (Kd.R_lower (Kd.R_new' ho0 (Kd.R_lt (by (with_reducible repeat (first | apply Kd.R_alloc | apply Kd.R_drewN | apply Kd.R_drew)); exact HO156.out))) (below_size (by repeat (first | (with_reducible first | exact HB.out | apply below_alloc | apply pw_below_drewN | apply below_drew1 | refine below_set ?_ GE144.out) | exact HB.out)))); have n2_ := Aside0.mk (blk_below (g := gb144) (o := .cells #[.int .i64 a0_0, .int .i64 a0_1, .int .i64 a0_2, .int .u64 a0_3, .int .u64 a0_4, .int .u64 a0_5] 114 (0, 0)) (by (with_reducible repeat (first | refine blk_drewN ?_ _ | refine blk_drew ?_ | refine blk_alloc ?_ _)); exact BK144.out) hb); have n3_ := Aside0.mk (below_step (by repeat (first | (with_reducible first | exact HB.out | apply below_alloc | apply pw_below_drewN | apply below_drew1 | refine below_set ?_ GE144.out) | exact HB.out)) hb); clear HO156; clear BK144; clear HB; have HO156 := n0_; have HO159 := n1_; have BK144 := n2_; have HB := n3_; clear n0_ n1_ n2_ n3_; (try clear hb); (try clear hb2); (try clear hk); (try clear hi); (try clear ho0); obtain ⟨Ao27, co27, eo27⟩ := Kd.R_slice HO159.out; subst eo27) | ((with_reducible refine gate_builtin (b := .append) (xs := #[.tmp 25, .tmp 29]) rfl ?_); at_builtin; refine Kd.R_append_rows (Kd.int .u8) (w0 := w) w.heap.size rfl (.tmp 25) (.tmp 29) 42 5 (.int .u8 0) 1 rfl Tryd.underlying42 info5 rfl (by decide) (by omega) v155 y154 t157 _ _ _ (fun k_ => some k_ ≠ (.slice Ao27 t157.length co27 : Value).ownBlock) (fun _ => False) rfl rfl ?aO ?aR (fun _ _ h => h) (fun _ h => h.elim) ?aF ?aB ?aS ?aL ?_; (case aR => repeat (first | exact (Kd.R_reads' HO159.out).2.2 | (with_reducible refine Kd.C_alloc ?_ _) | (with_reducible refine Kd.C_drewN ?_ _) | (with_reducible refine Kd.C_drew ?_))); (case aB => exact (by repeat (first | (with_reducible first | exact HB.out | apply below_alloc | apply pw_below_drewN | apply below_drew1 | refine below_set ?_ GE144.out) | exact HB.out))); (case aF => exact (fun k_ hk => Kd.fresh' (Kd.R_lt (by (with_reducible repeat (first | apply Kd.R_alloc | apply Kd.R_drewN | apply Kd.R_drew)); exact HO159.out)) k_ hk)); (case aO => exact (by (with_reducible repeat (first | apply Kd.R_alloc | apply Kd.R_drewN | apply Kd.R_drew)); exact Kd.R_mono HO156.out (fun _ hk => hk.2))); (case aS => exact (below_size (by repeat (first | (with_reducible first | exact HB.out | apply below_alloc | apply pw_below_drewN | apply below_drew1 | refine below_set ?_ GE144.out) | exact HB.out)))); (case aL => have := LMc18.out; omega); intro v161 w26 ho hb hg hat; rw [← Ny160.out] at ho; have n0_ := Aside0.mk (blk_grown (g := gb144) (o := .cells #[.int .i64 a0_0, .int .i64 a0_1, .int .i64 a0_2, .int .u64 a0_3, .int .u64 a0_4, .int .u64 a0_5] 114 (0, 0)) (by (with_reducible repeat (first | refine blk_drewN ?_ _ | refine blk_drew ?_ | refine blk_alloc ?_ _)); exact BK144.out) hg (Kd.R_ne HO156.out BK144.out (by decide))); have n1_ := Aside0.mk (Kd.R_after (ok := (fun _ => True)) (by (with_reducible repeat (first | apply Kd.R_alloc | apply Kd.R_drewN | apply Kd.R_drew)); exact HO159.out) hg hat); have n2_ := Aside0.mk (hb); have n3_ := Aside0.mk (ho); clear BK144; clear HO159; clear HB; clear HO156; have BK144 := n0_; have HO159 := n1_; have HB := n2_; have HO162 := n3_; clear n0_ n1_ n2_ n3_; clear ho hb hg hat) | ((with_reducible refine gate_builtin (b := .append) (xs := #[.tmp 31, .tmp 32]) rfl ?_); at_builtin; refine Kd.R_append_rows (Kd.int .u8) (w0 := w) w.heap.size rfl (.tmp 31) (.tmp 32) 42 5 (.int .u8 0) 1 rfl Tryd.underlying42 info5 rfl (by decide) (by omega) v161 y160 l1 _ _ _ (fun k_ => some k_ ≠ (.slice Ao27 t157.length co27 : Value).ownBlock) (fun _ => False) rfl rfl ?aO ?aR (fun _ _ h => h) (fun _ h => h.elim) ?aF ?aB ?aS ?aL ?_; (case aR => repeat (first | exact (Kd.C_below HR1.out HB.out) | (with_reducible refine Kd.C_alloc ?_ _) | (with_reducible refine Kd.C_drewN ?_ _) | (with_reducible refine Kd.C_drew ?_))); (case aB => exact (by repeat (first | (with_reducible first | exact HB.out | apply below_alloc | apply pw_below_drewN | apply below_drew1 | refine below_set ?_ GE144.out) | exact HB.out))); (case aF => exact (fun k_ hk => Kd.fresh' (Kd.R_lt (by (with_reducible repeat (first | apply Kd.R_alloc | apply Kd.R_drewN | apply Kd.R_drew)); exact HO159.out)) k_ hk)); (case aO => exact (by (with_reducible repeat (first | apply Kd.R_alloc | apply Kd.R_drewN | apply Kd.R_drew)); exact HO162.out)); (case aS => exact (below_size (by repeat (first | (with_reducible first | exact HB.out | apply below_alloc | apply pw_below_drewN | apply below_drew1 | refine below_set ?_ GE144.out) | exact HB.out)))); (case aL => have := LMc19.out; omega); intro v164 w28 ho hb hg hat; rw [← Ny163.out] at ho; have n0_ := Aside0.mk (blk_grown (g := gb144) (o := .cells #[.int .i64 a0_0, .int .i64 a0_1, .int .i64 a0_2, .int .u64 a0_3, .int .u64 a0_4, .int .u64 a0_5] 114 (0, 0)) (by (with_reducible repeat (first | refine blk_drewN ?_ _ | refine blk_drew ?_ | refine blk_alloc ?_ _)); exact BK144.out) hg (Kd.R_ne HO162.out BK144.out (by decide))); have n1_ := Aside0.mk (Kd.R_after (ok := (fun _ => True)) (by (with_reducible repeat (first | apply Kd.R_alloc | apply Kd.R_drewN | apply Kd.R_drew)); exact HO159.out) hg hat); have n2_ := Aside0.mk (hb); have n3_ := Aside0.mk (ho); clear BK144; clear HO159; clear HB; clear HO162; have BK144 := n0_; have HO159 := n1_; have HB := n2_; have HO165 := n3_; clear n0_ n1_ n2_ n3_; clear ho hb hg hat) | ((with_reducible refine gate_builtin (b := .append) (xs := #[.tmp 33, .tmp 34]) rfl ?_); at_builtin; refine Kd.R_append_rows (Kd.int .u8) (w0 := w) w.heap.size rfl (.tmp 33) (.tmp 34) 42 5 (.int .u8 0) 1 rfl Tryd.underlying42 info5 rfl (by decide) (by omega) v164 y163 l2 _ _ _ (fun k_ => some k_ ≠ (.slice Ao27 t157.length co27 : Value).ownBlock) (fun _ => False) rfl rfl ?aO ?aR (fun _ _ h => h) (fun _ h => h.elim) ?aF ?aB ?aS ?aL ?_; (case aR => repeat (first | exact (Kd.C_below HR2.out HB.out) | (with_reducible refine Kd.C_alloc ?_ _) | (with_reducible refine Kd.C_drewN ?_ _) | (with_reducible refine Kd.C_drew ?_))); (case aB => exact (by repeat (first | (with_reducible first | exact HB.out | apply below_alloc | apply pw_below_drewN | apply below_drew1 | refine below_set ?_ GE144.out) | exact HB.out))); (case aF => exact (fun k_ hk => Kd.fresh' (Kd.R_lt (by (with_reducible repeat (first | apply Kd.R_alloc | apply Kd.R_drewN | apply Kd.R_drew)); exact HO159.out)) k_ hk)); (case aO => exact (by (with_reducible repeat (first | apply Kd.R_alloc | apply Kd.R_drewN | apply Kd.R_drew)); exact HO165.out)); (case aS => exact (below_size (by repeat (first | (with_reducible first | exact HB.out | apply below_alloc | apply pw_below_drewN | apply below_drew1 | refine below_set ?_ GE144.out) | exact HB.out)))); (case aL => have := LMc20.out; omega); intro v167 w29 ho hb hg hat; rw [← Ny166.out] at ho; have n0_ := Aside0.mk (blk_grown (g := gb144) (o := .cells #[.int .i64 a0_0, .int .i64 a0_1, .int .i64 a0_2, .int .u64 a0_3, .int .u64 a0_4, .int .u64 a0_5] 114 (0, 0)) (by (with_reducible repeat (first | refine blk_drewN ?_ _ | refine blk_drew ?_ | refine blk_alloc ?_ _)); exact BK144.out) hg (Kd.R_ne HO165.out BK144.out (by decide))); have n1_ := Aside0.mk (Kd.R_after (ok := (fun _ => True)) (by (with_reducible repeat (first | apply Kd.R_alloc | apply Kd.R_drewN | apply Kd.R_drew)); exact HO159.out) hg hat); have n2_ := Aside0.mk (hb); have n3_ := Aside0.mk (ho); clear BK144; clear HO159; clear HB; clear HO165; have BK144 := n0_; have HO159 := n1_; have HB := n2_; have HO168 := n3_; clear n0_ n1_ n2_ n3_; clear ho hb hg hat))
          go_ret
          exact ⟨_, by first | rfl | (simp [errW_none, errW_some] <;> rfl) | (simp [*, errW_none, errW_some] <;> rfl), by (with_reducible repeat (first | apply Kd.R_alloc | apply Kd.R_drewN | apply Kd.R_drew)); exact Kd.R_mono HO168.out (fun _ hk => trivial), by repeat (first | (with_reducible first | exact HB.out | apply below_alloc | apply pw_below_drewN | apply below_drew1 | refine below_set ?_ GE144.out) | exact HB.out)⟩
        · rw [if_neg c20] at H
          exact absurd H (by simp)
      · rw [if_neg c19] at H
        exact absurd H (by simp)
    · rw [if_neg c18] at H
      exact absurd H (by simp)
def proof_chainBorderRight.l0 : Nat → List Int → List (List Int) → Int → Int → Int → Int → Int → Int → Int → Int → Option (List Int)
  | 0, _, _, _, _, _, _, _, _, _, _ => none
  | k + 1, x1, x9, x10, x11, x900, x901, x902, x903, x904, x905 => if x11 < x10 then (if 0 ≤ x11 then (if x11 < (x9.length : Int) then ((impl_toy_HashChildren.f k x900 x901 x902 x903 x904 x905 (rd_L1 x9 x11) x1).bind fun t170 => (proof_chainBorderRight.l0 k t170 x9 x10 (wrap64 (x11 + 1)) x900 x901 x902 x903 x904 x905)) else (none)) else (none)) else (some x1)
def proof_chainBorderRight.f (k : Nat) (a0_0 : Int) (a0_1 : Int) (a0_2 : Int) (a0_3 : Int) (a0_4 : Int) (a0_5 : Int) (l1 : List Int) (l2 : List (List Int)) : Option (List Int) := proof_chainBorderRight.l0 k l1 l2 (l2.length : Int) 0 a0_0 a0_1 a0_2 a0_3 a0_4 a0_5
theorem proof_chainBorderRight.mono_l : ∀ k, (∀ y0 y1 y2 y3 y4 y5 y6 y7 y8 y9, LeO (proof_chainBorderRight.l0 k y0 y1 y2 y3 y4 y5 y6 y7 y8 y9) (proof_chainBorderRight.l0 (k + 1) y0 y1 y2 y3 y4 y5 y6 y7 y8 y9))
  | 0 => fun _ _ _ _ _ _ _ _ _ _ r h => by simp [proof_chainBorderRight.l0] at h
  | k + 1 => by
    have ih0 := proof_chainBorderRight.mono_l k
    · intro y0 y1 y2 y3 y4 y5 y6 y7 y8 y9
      unfold proof_chainBorderRight.l0
      repeat' first
      | (with_reducible exact ih0 _ _ _ _ _ _ _ _ _ _)
      | (with_reducible exact impl_toy_HashChildren.mono _ _ _ _ _ _ _ _ _)
      | (with_reducible exact LeO.refl _)
      | (with_reducible exact LeO.none _)
      | (with_reducible refine LeO.ite ?_ ?_)
      | (with_reducible refine LeO.bind ?_ (fun _ => ?_))
      | exact ih0 _ _ _ _ _ _ _ _ _ _
      | exact impl_toy_HashChildren.mono _ _ _ _ _ _ _ _ _
      | exact LeO.none _
      | refine LeO.ite ?_ ?_
      | refine LeO.bind ?_ (fun _ => ?_)
theorem proof_chainBorderRight.mono : ∀ a0 a1 a2 a3 a4 a5 a6 a7 k, LeO (proof_chainBorderRight.f k a0 a1 a2 a3 a4 a5 a6 a7) (proof_chainBorderRight.f (k + 1) a0 a1 a2 a3 a4 a5 a6 a7) := by
  intro a0 a1 a2 a3 a4 a5 a6 a7 k
  have ih0 := proof_chainBorderRight.mono_l k
  unfold proof_chainBorderRight.f
  repeat' first
      | (with_reducible exact ih0 _ _ _ _ _ _ _ _ _ _)
      | (with_reducible exact impl_toy_HashChildren.mono _ _ _ _ _ _ _ _ _)
      | (with_reducible exact LeO.refl _)
      | (with_reducible exact LeO.none _)
      | (with_reducible refine LeO.ite ?_ ?_)
      | (with_reducible refine LeO.bind ?_ (fun _ => ?_))
      | exact ih0 _ _ _ _ _ _ _ _ _ _
      | exact impl_toy_HashChildren.mono _ _ _ _ _ _ _ _ _
      | exact LeO.none _
      | refine LeO.ite ?_ ?_
      | refine LeO.bind ?_ (fun _ => ?_)
set_option maxHeartbeats 8000000 in
set_option maxRecDepth 100000 in
theorem proof_chainBorderRight.calls (k : Nat) (a0_0 : Int) (a0_1 : Int) (a0_2 : Int) (a0_3 : Int) (a0_4 : Int) (a0_5 : Int) (P1_ : Nat → Prop) (A1 : Option Addr) (c1 : Nat) (l1 : List Int) (A2 : Option Addr) (c2 : Nat) (l2 : List (List Int)) (r : List Int) (w : World) (hs1 : Kd.V (Kd.int .u8) 5 w w.heap.size (fun k_ => P1_ k_) (.slice A1 l1.length c1) l1) (hr2 : Kd.C (Kd.slice 5 (Kd.int .u8)) w A2 l2.length l2) (hc2 : l2.length ≤ c2) (h : proof_chainBorderRight.f k a0_0 a0_1 a0_2 a0_3 a0_4 a0_5 l1 l2 = some r) :
    Calls Tryd.prog 119 #[.iface 114 (.agg #[.int .i64 a0_0, .int .i64 a0_1, .int .i64 a0_2, .int .u64 a0_3, .int .u64 a0_4, .int .u64 a0_5]), .slice A1 l1.length c1, .slice A2 l2.length c2] w fun e w' => ∃ v0_ : Value, e = .returned (v0_) ∧ Kd.V (Kd.int .u8) 5 w' w.heap.size (fun k_ => (P1_ k_ ∨ w.heap.size ≤ k_)) v0_ r ∧ Below w.heap.size w w' := by
  have HO1 := Aside0.mk (show Kd.V (Kd.int .u8) 5 w w.heap.size (fun k_ => (P1_ k_ ∨ w.heap.size ≤ k_)) (.slice A1 l1.length c1) l1 from Kd.V_mono hs1 (fun k_ hk => .inl hk))
  have HR2 := Aside0.mk hr2
  have HC2 := Aside0.mk hc2
  clear hr2 hc2
  have HB := Aside0.mk (Below.refl w.heap.size w)
  have H : (proof_chainBorderRight.l0 k l1 l2 (l2.length : Int) 0 a0_0 a0_1 a0_2 a0_3 a0_4 a0_5) = some r := h
  clear h
  have H' := Aside0.mk H
  clear H
  go_enter Tryd.func119, Tryd.ntmps119
  go_wp2
  try simp only [Act.put, List.setIfInBounds_toArray, List.set_cons_zero, List.set_cons_succ]
  go_loopg [1, 11] k (fun kq v1 v11 w' => ∃ (x1_1 : List Int) (x11_1 : Int), v11 = .int .i64 x11_1 ∧ Aside0 (proof_chainBorderRight.l0 kq x1_1 l2 (l2.length : Int) x11_1 a0_0 a0_1 a0_2 a0_3 a0_4 a0_5 = some r) ∧ Aside0 (kq ≤ k) ∧ Aside0 (Kd.V (Kd.int .u8) 5 w' w.heap.size (fun k_ => (P1_ k_ ∨ w.heap.size ≤ k_)) v1 x1_1) ∧ Aside0 (Below w.heap.size w w'))
  case atStart => exact ⟨(l1), (0), (by first | rfl | (simp; done) | (simp [*]; done)), H', ⟨Nat.le_refl _⟩, ⟨by (with_reducible repeat (first | apply Kd.V_alloc | apply Kd.V_drewN | apply Kd.V_drew)); exact HO1.out⟩, ⟨by repeat (first | (with_reducible first | exact HB.out | apply below_alloc | apply pw_below_drewN | apply below_drew1) | exact HB.out)⟩⟩
  case round =>
    clear H'
    try clear c1
    try clear c2
    try clear p2
    obtain ⟨x1_1, x11_1, rfl, HA, HK1, HO_1, HB⟩ := hrel
    cases gk with
    | zero => exact absurd HA.out (by simp [proof_chainBorderRight.l0])
    | succ k1 =>
      have H := HA.out
      clear HA
      simp only [proof_chainBorderRight.l0] at H
      by_cases c4 : x11_1 < (l2.length : Int)
      · rw [if_pos c4] at H
        have c4b0 : decide (x11_1 < (l2.length : Int)) = true := decide_eq_true c4
        clear c4
        by_cases c5 : 0 ≤ x11_1
        · rw [if_pos c5] at H
          have c5b0 : decide (0 ≤ x11_1) = true := decide_eq_true c5
          clear c5
          by_cases c6 : x11_1 < (l2.length : Int)
          · rw [if_pos c6] at H
            have c6b0 : decide (x11_1 < (l2.length : Int)) = true := decide_eq_true c6
            clear c6
            replace H := Option.bind_eq_some_iff.mp H
            obtain ⟨t170, A70, H⟩ := H
            replace H : (proof_chainBorderRight.l0 k1 t170 l2 (l2.length : Int) (wrap64 (x11_1 + 1)) a0_0 a0_1 a0_2 a0_3 a0_4 a0_5) = some r := H
            have A7 := Aside0.mk A70
            clear A70
            have H' := Aside0.mk H
            clear H
            have p169 : 0 ≤ (x11_1 : Int) := of_decide_eq_true (by first | (with_reducible assumption) | assumption)
            have q169 : x11_1 < (l2.length : Int) := of_decide_eq_true (by first | (with_reducible assumption) | assumption)
            obtain ⟨ad169, A169_0, c169_0, e169, hx169_0, hl169_0, hi169_0⟩ := at_L1 HR2.out x11_1 p169 q169
            cases e169
            (try replace hx169_0 := (HB.out.cell (World.block_lt_of_cell? w _ hx169_0)).trans hx169_0)
            have HR169_0 := Aside0.mk hi169_0
            have HC169_0 := Aside0.mk hl169_0
            clear hi169_0 hl169_0
            replace p169 := eq_true p169
            replace q169 := eq_true q169
            obtain ⟨Ao8, co8, eo8⟩ := Kd.V_slice HO_1.out
            subst eo8
            go_wp2_with (first | ((with_reducible refine gate_invoke (name := "HashChildren") rfl ?_); refine goesLI_ (some 18) rfl rfl Tryd.func68 (by kernel_rfl) rfl (u := 114) (v := .agg #[.int .i64 a0_0, .int .i64 a0_1, .int .i64 a0_2, .int .u64 a0_3, .int .u64 a0_4, .int .u64 a0_5]) (name := "HashChildren") #[.slice A169_0 (rd_L1 l2 x11_1).length c169_0, .slice Ao8 x1_1.length co8] #[.agg #[.int .i64 a0_0, .int .i64 a0_1, .int .i64 a0_2, .int .u64 a0_3, .int .u64 a0_4, .int .u64 a0_5], .slice A169_0 (rd_L1 l2 x11_1).length c169_0, .slice Ao8 x1_1.length co8] rfl rfl (inv68 _ _) (by (try simp only [List.map_toArray, List.map_cons, List.map_nil]); first | done | rfl | (simp only [List.length_drop, List.length_take]; rfl)) rfl ?_; (with_reducible refine (impl_toy_HashChildren.calls k1 a0_0 a0_1 a0_2 a0_3 a0_4 a0_5 _ _ (rd_L1 l2 x11_1) _ _ x1_1 t170 _ ?side1 ?side2 ?side3 ?side4 A7.out).mono ?_); (case side1 => repeat (first | exact (Kd.C_below HR169_0.out HB.out) | (with_reducible refine Kd.C_alloc ?_ _) | (with_reducible refine Kd.C_drewN ?_ _) | (with_reducible refine Kd.C_drew ?_))); (case side2 => exact HC169_0.out); (case side3 => repeat (first | exact (Kd.V_reads' HO_1.out).2.2 | (with_reducible refine Kd.C_alloc ?_ _) | (with_reducible refine Kd.C_drewN ?_ _) | (with_reducible refine Kd.C_drew ?_))); (case side4 => exact (Kd.V_reads' HO_1.out).2.1); rintro e w9 ⟨v171, rfl, ho0, hb⟩; refine ⟨_, rfl, ?_⟩; have n0_ := Aside0.mk (Kd.V_elder' (by (with_reducible repeat (first | apply Kd.V_alloc | apply Kd.V_drewN | apply Kd.V_drew)); exact HO_1.out) (Kd.R_base ho0) hb); have n1_ := Aside0.mk (Kd.R_lower (Kd.R_newM (M := fun k_ => (w.heap.size ≤ k_)) ho0 (below_size (by repeat (first | (with_reducible first | exact HB.out | apply below_alloc | apply pw_below_drewN | apply below_drew1) | exact HB.out))) (fun k_ h_ => h_)) (below_size (by repeat (first | (with_reducible first | exact HB.out | apply below_alloc | apply pw_below_drewN | apply below_drew1) | exact HB.out)))); have n2_ := Aside0.mk (below_step (by repeat (first | (with_reducible first | exact HB.out | apply below_alloc | apply pw_below_drewN | apply below_drew1) | exact HB.out)) hb); clear HO_1; clear HB; have HO_1 := n0_; have HO172 := n1_; have HB := n2_; clear n0_ n1_ n2_; (try clear hb); (try clear hb2); (try clear hk); (try clear hi); (try clear ho0)))
            go_roundg k1
            case measure => have := HK1.out; omega
            case rel => exact ⟨(t170), (wrap64 (x11_1 + 1)), (by first | rfl | (simp; done) | (simp [*]; done)), H', ⟨by have := HK1.out; omega⟩, ⟨Kd.V_mono (Kd.R_V (by (with_reducible repeat (first | apply Kd.R_alloc | apply Kd.R_drewN | apply Kd.R_drew)); exact Kd.R_mono HO172.out (fun _ hk => hk.1))) (fun k_ hk => by first | exact ⟨(.inr (hk.1)), hk.2⟩ | exact (.inr (hk)))⟩, ⟨by repeat (first | (with_reducible first | exact HB.out | apply below_alloc | apply pw_below_drewN | apply below_drew1) | exact HB.out)⟩⟩
          · rw [if_neg c6] at H
            exact absurd H (by simp)
        · rw [if_neg c5] at H
          exact absurd H (by simp)
      · rw [if_neg c4] at H
        have c4b0 : decide (x11_1 < (l2.length : Int)) = false := decide_eq_false c4
        clear c4
        obtain rfl := Option.some.inj H
        go_wp2
        go_ret
        exact ⟨_, by first | rfl | (simp [errW_none, errW_some] <;> rfl) | (simp [*, errW_none, errW_some] <;> rfl), by (with_reducible repeat (first | apply Kd.V_alloc | apply Kd.V_drewN | apply Kd.V_drew)); exact HO_1.out, by repeat (first | (with_reducible first | exact HB.out | apply below_alloc | apply pw_below_drewN | apply below_drew1) | exact HB.out)⟩
def proof_chainInner.l0 : Nat → List Int → Int → List (List Int) → Int → Int → Int → Int → Int → Int → Int → Int → Option (List Int)
  | 0, _, _, _, _, _, _, _, _, _, _, _ => none
  | k + 1, x1, x3, x11, x12, x13, x900, x901, x902, x903, x904, x905 => if x13 < x12 then (if 0 ≤ x13 then (if x13 < (x11.length : Int) then (if 0 ≤ (IntKind.u64.wrap (x13)) then (if (Go.bits .and .u64 (shr .u64 x3 (IntKind.u64.wrap (x13))) 1) = 0 then ((impl_toy_HashChildren.f k x900 x901 x902 x903 x904 x905 x1 (rd_L1 x11 x13)).bind fun t174 => (proof_chainInner.l0 k t174 x3 x11 x12 (wrap64 (x13 + 1)) x900 x901 x902 x903 x904 x905)) else ((impl_toy_HashChildren.f k x900 x901 x902 x903 x904 x905 (rd_L1 x11 x13) x1).bind fun t177 => (proof_chainInner.l0 k t177 x3 x11 x12 (wrap64 (x13 + 1)) x900 x901 x902 x903 x904 x905))) else (none)) else (none)) else (none)) else (some x1)
def proof_chainInner.f (k : Nat) (a0_0 : Int) (a0_1 : Int) (a0_2 : Int) (a0_3 : Int) (a0_4 : Int) (a0_5 : Int) (l1 : List Int) (l2 : List (List Int)) (a3 : Int) : Option (List Int) := proof_chainInner.l0 k l1 a3 l2 (l2.length : Int) 0 a0_0 a0_1 a0_2 a0_3 a0_4 a0_5
theorem proof_chainInner.mono_l : ∀ k, (∀ y0 y1 y2 y3 y4 y5 y6 y7 y8 y9 y10, LeO (proof_chainInner.l0 k y0 y1 y2 y3 y4 y5 y6 y7 y8 y9 y10) (proof_chainInner.l0 (k + 1) y0 y1 y2 y3 y4 y5 y6 y7 y8 y9 y10))
  | 0 => fun _ _ _ _ _ _ _ _ _ _ _ r h => by simp [proof_chainInner.l0] at h
  | k + 1 => by
    have ih0 := proof_chainInner.mono_l k
    · intro y0 y1 y2 y3 y4 y5 y6 y7 y8 y9 y10
      unfold proof_chainInner.l0
      repeat' first
      | (with_reducible exact ih0 _ _ _ _ _ _ _ _ _ _ _)
      | (with_reducible exact impl_toy_HashChildren.mono _ _ _ _ _ _ _ _ _)
      | (with_reducible exact LeO.refl _)
      | (with_reducible exact LeO.none _)
      | (with_reducible refine LeO.ite ?_ ?_)
      | (with_reducible refine LeO.bind ?_ (fun _ => ?_))
      | exact ih0 _ _ _ _ _ _ _ _ _ _ _
      | exact impl_toy_HashChildren.mono _ _ _ _ _ _ _ _ _
      | exact LeO.none _
      | refine LeO.ite ?_ ?_
      | refine LeO.bind ?_ (fun _ => ?_)
theorem proof_chainInner.mono : ∀ a0 a1 a2 a3 a4 a5 a6 a7 a8 k, LeO (proof_chainInner.f k a0 a1 a2 a3 a4 a5 a6 a7 a8) (proof_chainInner.f (k + 1) a0 a1 a2 a3 a4 a5 a6 a7 a8) := by
  intro a0 a1 a2 a3 a4 a5 a6 a7 a8 k
  have ih0 := proof_chainInner.mono_l k
  unfold proof_chainInner.f
  repeat' first
      | (with_reducible exact ih0 _ _ _ _ _ _ _ _ _ _ _)
      | (with_reducible exact impl_toy_HashChildren.mono _ _ _ _ _ _ _ _ _)
      | (with_reducible exact LeO.refl _)
      | (with_reducible exact LeO.none _)
      | (with_reducible refine LeO.ite ?_ ?_)
      | (with_reducible refine LeO.bind ?_ (fun _ => ?_))
      | exact ih0 _ _ _ _ _ _ _ _ _ _ _
      | exact impl_toy_HashChildren.mono _ _ _ _ _ _ _ _ _
      | exact LeO.none _
      | refine LeO.ite ?_ ?_
      | refine LeO.bind ?_ (fun _ => ?_)
set_option maxHeartbeats 8000000 in
set_option maxRecDepth 100000 in
theorem proof_chainInner.calls (k : Nat) (a0_0 : Int) (a0_1 : Int) (a0_2 : Int) (a0_3 : Int) (a0_4 : Int) (a0_5 : Int) (P1_ : Nat → Prop) (A1 : Option Addr) (c1 : Nat) (l1 : List Int) (A2 : Option Addr) (c2 : Nat) (l2 : List (List Int)) (a3 : Int) (r : List Int) (w : World) (hs1 : Kd.V (Kd.int .u8) 5 w w.heap.size (fun k_ => P1_ k_) (.slice A1 l1.length c1) l1) (hr2 : Kd.C (Kd.slice 5 (Kd.int .u8)) w A2 l2.length l2) (hc2 : l2.length ≤ c2) (h : proof_chainInner.f k a0_0 a0_1 a0_2 a0_3 a0_4 a0_5 l1 l2 a3 = some r) :
    Calls Tryd.prog 120 #[.iface 114 (.agg #[.int .i64 a0_0, .int .i64 a0_1, .int .i64 a0_2, .int .u64 a0_3, .int .u64 a0_4, .int .u64 a0_5]), .slice A1 l1.length c1, .slice A2 l2.length c2, .int .u64 a3] w fun e w' => ∃ v0_ : Value, e = .returned (v0_) ∧ Kd.V (Kd.int .u8) 5 w' w.heap.size (fun k_ => (P1_ k_ ∨ w.heap.size ≤ k_)) v0_ r ∧ Below w.heap.size w w' := by
  have HO1 := Aside0.mk (show Kd.V (Kd.int .u8) 5 w w.heap.size (fun k_ => (P1_ k_ ∨ w.heap.size ≤ k_)) (.slice A1 l1.length c1) l1 from Kd.V_mono hs1 (fun k_ hk => .inl hk))
  have HR2 := Aside0.mk hr2
  have HC2 := Aside0.mk hc2
  clear hr2 hc2
  have HB := Aside0.mk (Below.refl w.heap.size w)
  have H : (proof_chainInner.l0 k l1 a3 l2 (l2.length : Int) 0 a0_0 a0_1 a0_2 a0_3 a0_4 a0_5) = some r := h
  clear h
  have H' := Aside0.mk H
  clear H
  go_enter Tryd.func120, Tryd.ntmps120
  go_wp2
  try simp only [Act.put, List.setIfInBounds_toArray, List.set_cons_zero, List.set_cons_succ]
  go_loopg [1, 13] k (fun kq v1 v13 w' => ∃ (x1_1 : List Int) (x13_1 : Int), v13 = .int .i64 x13_1 ∧ Aside0 (proof_chainInner.l0 kq x1_1 a3 l2 (l2.length : Int) x13_1 a0_0 a0_1 a0_2 a0_3 a0_4 a0_5 = some r) ∧ Aside0 (kq ≤ k) ∧ Aside0 (Kd.V (Kd.int .u8) 5 w' w.heap.size (fun k_ => (P1_ k_ ∨ w.heap.size ≤ k_)) v1 x1_1) ∧ Aside0 (Below w.heap.size w w'))
  case atStart => exact ⟨(l1), (0), (by first | rfl | (simp; done) | (simp [*]; done)), H', ⟨Nat.le_refl _⟩, ⟨by (with_reducible repeat (first | apply Kd.V_alloc | apply Kd.V_drewN | apply Kd.V_drew)); exact HO1.out⟩, ⟨by repeat (first | (with_reducible first | exact HB.out | apply below_alloc | apply pw_below_drewN | apply below_drew1) | exact HB.out)⟩⟩
  case round =>
    clear H'
    try clear c1
    try clear c2
    try clear p2
    obtain ⟨x1_1, x13_1, rfl, HA, HK1, HO_1, HB⟩ := hrel
    cases gk with
    | zero => exact absurd HA.out (by simp [proof_chainInner.l0])
    | succ k1 =>
      have H := HA.out
      clear HA
      simp only [proof_chainInner.l0] at H
      by_cases c5 : x13_1 < (l2.length : Int)
      · rw [if_pos c5] at H
        have c5b0 : decide (x13_1 < (l2.length : Int)) = true := decide_eq_true c5
        clear c5
        by_cases c6 : 0 ≤ x13_1
        · rw [if_pos c6] at H
          have c6b0 : decide (0 ≤ x13_1) = true := decide_eq_true c6
          clear c6
          by_cases c7 : x13_1 < (l2.length : Int)
          · rw [if_pos c7] at H
            have c7b0 : decide (x13_1 < (l2.length : Int)) = true := decide_eq_true c7
            clear c7
            obtain ⟨ji8, hji8⟩ : ∃ j_ : Int, (IntKind.u64.wrap (x13_1)) = j_ := ⟨_, rfl⟩
            replace H : (if 0 ≤ (ji8) then (if (Go.bits .and .u64 (shr .u64 a3 (ji8)) 1) = 0 then ((impl_toy_HashChildren.f k1 a0_0 a0_1 a0_2 a0_3 a0_4 a0_5 x1_1 (rd_L1 l2 x13_1)).bind fun t174 => (proof_chainInner.l0 k1 t174 a3 l2 (l2.length : Int) (wrap64 (x13_1 + 1)) a0_0 a0_1 a0_2 a0_3 a0_4 a0_5)) else ((impl_toy_HashChildren.f k1 a0_0 a0_1 a0_2 a0_3 a0_4 a0_5 (rd_L1 l2 x13_1) x1_1).bind fun t177 => (proof_chainInner.l0 k1 t177 a3 l2 (l2.length : Int) (wrap64 (x13_1 + 1)) a0_0 a0_1 a0_2 a0_3 a0_4 a0_5))) else (none)) = some r := by first | (rw [hji8] at H; exact H) | (simp only [hji8] at H ⊢; exact H)
            by_cases c9 : 0 ≤ (ji8)
            · rw [if_pos c9] at H
              have c9b0 := eq_true c9
              have c9b1 : decide (0 ≤ (ji8)) = true := decide_eq_true c9
              clear c9
              obtain ⟨ji10, hji10⟩ : ∃ j_ : Int, (shr .u64 a3 (ji8)) = j_ := ⟨_, rfl⟩
              replace H : (if (Go.bits .and .u64 (ji10) 1) = 0 then ((impl_toy_HashChildren.f k1 a0_0 a0_1 a0_2 a0_3 a0_4 a0_5 x1_1 (rd_L1 l2 x13_1)).bind fun t174 => (proof_chainInner.l0 k1 t174 a3 l2 (l2.length : Int) (wrap64 (x13_1 + 1)) a0_0 a0_1 a0_2 a0_3 a0_4 a0_5)) else ((impl_toy_HashChildren.f k1 a0_0 a0_1 a0_2 a0_3 a0_4 a0_5 (rd_L1 l2 x13_1) x1_1).bind fun t177 => (proof_chainInner.l0 k1 t177 a3 l2 (l2.length : Int) (wrap64 (x13_1 + 1)) a0_0 a0_1 a0_2 a0_3 a0_4 a0_5))) = some r := by first | (rw [hji10] at H; exact H) | (simp only [hji10] at H ⊢; exact H)
              have hji10_ : (a3 / 2 ^ min (ji8).toNat 64) = ji10 := hji10
              have hji10z : (ji8) ≤ 64 → (a3 / 2 ^ (ji8).toNat) = ji10 := shr_small hji10
              by_cases c11 : (Go.bits .and .u64 (ji10) 1) = 0
              · rw [if_pos c11] at H
                have c11b0 : ((Go.bits .and .u64 (ji10) 1) == 0) = true := beq_iff_eq.mpr c11
                have c11b1 : ((Go.bits .and .u64 (ji10) 1) != 0) = false := bne_eq_false_iff_eq.mpr c11
                clear c11
                replace H := Option.bind_eq_some_iff.mp H
                obtain ⟨t174, A120, H⟩ := H
                replace H : (proof_chainInner.l0 k1 t174 a3 l2 (l2.length : Int) (wrap64 (x13_1 + 1)) a0_0 a0_1 a0_2 a0_3 a0_4 a0_5) = some r := H
                have A12 := Aside0.mk A120
                clear A120
                have H' := Aside0.mk H
                clear H
                have p173 : 0 ≤ (x13_1 : Int) := of_decide_eq_true (by first | (with_reducible assumption) | assumption)
                have q173 : x13_1 < (l2.length : Int) := of_decide_eq_true (by first | (with_reducible assumption) | assumption)
                obtain ⟨ad173, A173_0, c173_0, e173, hx173_0, hl173_0, hi173_0⟩ := at_L1 HR2.out x13_1 p173 q173
                cases e173
                (try replace hx173_0 := (HB.out.cell (World.block_lt_of_cell? w _ hx173_0)).trans hx173_0)
                have HR173_0 := Aside0.mk hi173_0
                have HC173_0 := Aside0.mk hl173_0
                clear hi173_0 hl173_0
                replace p173 := eq_true p173
                replace q173 := eq_true q173
                obtain ⟨Ao13, co13, eo13⟩ := Kd.V_slice HO_1.out
                subst eo13
                go_wp2_with (first | ((with_reducible refine gate_invoke (name := "HashChildren") rfl ?_); refine goesLI_ (some 27) rfl rfl Tryd.func68 (by kernel_rfl) rfl (u := 114) (v := .agg #[.int .i64 a0_0, .int .i64 a0_1, .int .i64 a0_2, .int .u64 a0_3, .int .u64 a0_4, .int .u64 a0_5]) (name := "HashChildren") #[.slice Ao13 x1_1.length co13, .slice A173_0 (rd_L1 l2 x13_1).length c173_0] #[.agg #[.int .i64 a0_0, .int .i64 a0_1, .int .i64 a0_2, .int .u64 a0_3, .int .u64 a0_4, .int .u64 a0_5], .slice Ao13 x1_1.length co13, .slice A173_0 (rd_L1 l2 x13_1).length c173_0] rfl rfl (inv68 _ _) (by (try simp only [List.map_toArray, List.map_cons, List.map_nil]); first | done | rfl | (simp only [List.length_drop, List.length_take]; rfl)) rfl ?_; (with_reducible refine (impl_toy_HashChildren.calls k1 a0_0 a0_1 a0_2 a0_3 a0_4 a0_5 _ _ x1_1 _ _ (rd_L1 l2 x13_1) t174 _ ?side1 ?side2 ?side3 ?side4 A12.out).mono ?_); (case side1 => repeat (first | exact (Kd.V_reads' HO_1.out).2.2 | (with_reducible refine Kd.C_alloc ?_ _) | (with_reducible refine Kd.C_drewN ?_ _) | (with_reducible refine Kd.C_drew ?_))); (case side2 => exact (Kd.V_reads' HO_1.out).2.1); (case side3 => repeat (first | exact (Kd.C_below HR173_0.out HB.out) | (with_reducible refine Kd.C_alloc ?_ _) | (with_reducible refine Kd.C_drewN ?_ _) | (with_reducible refine Kd.C_drew ?_))); (case side4 => exact HC173_0.out); rintro e w14 ⟨v175, rfl, ho0, hb⟩; refine ⟨_, rfl, ?_⟩; have n0_ := Aside0.mk (Kd.V_elder' (by (with_reducible repeat (first | apply Kd.V_alloc | apply Kd.V_drewN | apply Kd.V_drew)); exact HO_1.out) (Kd.R_base ho0) hb); have n1_ := Aside0.mk (Kd.R_lower (Kd.R_newM (M := fun k_ => (w.heap.size ≤ k_)) ho0 (below_size (by repeat (first | (with_reducible first | exact HB.out | apply below_alloc | apply pw_below_drewN | apply below_drew1) | exact HB.out))) (fun k_ h_ => h_)) (below_size (by repeat (first | (with_reducible first | exact HB.out | apply below_alloc | apply pw_below_drewN | apply below_drew1) | exact HB.out)))); have n2_ := Aside0.mk (below_step (by repeat (first | (with_reducible first | exact HB.out | apply below_alloc | apply pw_below_drewN | apply below_drew1) | exact HB.out)) hb); clear HO_1; clear HB; have HO_1 := n0_; have HO176 := n1_; have HB := n2_; clear n0_ n1_ n2_; (try clear hb); (try clear hb2); (try clear hk); (try clear hi); (try clear ho0)))
                go_roundg k1
                case measure => have := HK1.out; omega
                case rel => exact ⟨(t174), (wrap64 (x13_1 + 1)), (by first | rfl | (simp; done) | (simp [*]; done)), H', ⟨by have := HK1.out; omega⟩, ⟨Kd.V_mono (Kd.R_V (by (with_reducible repeat (first | apply Kd.R_alloc | apply Kd.R_drewN | apply Kd.R_drew)); exact Kd.R_mono HO176.out (fun _ hk => hk.1))) (fun k_ hk => by first | exact ⟨(.inr (hk.1)), hk.2⟩ | exact (.inr (hk)))⟩, ⟨by repeat (first | (with_reducible first | exact HB.out | apply below_alloc | apply pw_below_drewN | apply below_drew1) | exact HB.out)⟩⟩
              · rw [if_neg c11] at H
                have c11b0 : ((Go.bits .and .u64 (ji10) 1) == 0) = false := beq_eq_false_iff_ne.mpr c11
                have c11b1 : ((Go.bits .and .u64 (ji10) 1) != 0) = true := bne_iff_ne.mpr c11
                replace H := Option.bind_eq_some_iff.mp H
                obtain ⟨t177, A150, H⟩ := H
                replace H : (proof_chainInner.l0 k1 t177 a3 l2 (l2.length : Int) (wrap64 (x13_1 + 1)) a0_0 a0_1 a0_2 a0_3 a0_4 a0_5) = some r := H
                have A15 := Aside0.mk A150
                clear A150
                have H' := Aside0.mk H
                clear H
                have p173 : 0 ≤ (x13_1 : Int) := of_decide_eq_true (by first | (with_reducible assumption) | assumption)
                have q173 : x13_1 < (l2.length : Int) := of_decide_eq_true (by first | (with_reducible assumption) | assumption)
                obtain ⟨ad173, A173_0, c173_0, e173, hx173_0, hl173_0, hi173_0⟩ := at_L1 HR2.out x13_1 p173 q173
                cases e173
                (try replace hx173_0 := (HB.out.cell (World.block_lt_of_cell? w _ hx173_0)).trans hx173_0)
                have HR173_0 := Aside0.mk hi173_0
                have HC173_0 := Aside0.mk hl173_0
                clear hi173_0 hl173_0
                replace p173 := eq_true p173
                replace q173 := eq_true q173
                obtain ⟨Ao16, co16, eo16⟩ := Kd.V_slice HO_1.out
                subst eo16
                go_wp2_with (first | ((with_reducible refine gate_invoke (name := "HashChildren") rfl ?_); refine goesLI_ (some 31) rfl rfl Tryd.func68 (by kernel_rfl) rfl (u := 114) (v := .agg #[.int .i64 a0_0, .int .i64 a0_1, .int .i64 a0_2, .int .u64 a0_3, .int .u64 a0_4, .int .u64 a0_5]) (name := "HashChildren") #[.slice A173_0 (rd_L1 l2 x13_1).length c173_0, .slice Ao16 x1_1.length co16] #[.agg #[.int .i64 a0_0, .int .i64 a0_1, .int .i64 a0_2, .int .u64 a0_3, .int .u64 a0_4, .int .u64 a0_5], .slice A173_0 (rd_L1 l2 x13_1).length c173_0, .slice Ao16 x1_1.length co16] rfl rfl (inv68 _ _) (by (try simp only [List.map_toArray, List.map_cons, List.map_nil]); first | done | rfl | (simp only [List.length_drop, List.length_take]; rfl)) rfl ?_; (with_reducible refine (impl_toy_HashChildren.calls k1 a0_0 a0_1 a0_2 a0_3 a0_4 a0_5 _ _ (rd_L1 l2 x13_1) _ _ x1_1 t177 _ ?side1 ?side2 ?side3 ?side4 A15.out).mono ?_); (case side1 => repeat (first | exact (Kd.C_below HR173_0.out HB.out) | (with_reducible refine Kd.C_alloc ?_ _) | (with_reducible refine Kd.C_drewN ?_ _) | (with_reducible refine Kd.C_drew ?_))); (case side2 => exact HC173_0.out); (case side3 => repeat (first | exact (Kd.V_reads' HO_1.out).2.2 | (with_reducible refine Kd.C_alloc ?_ _) | (with_reducible refine Kd.C_drewN ?_ _) | (with_reducible refine Kd.C_drew ?_))); (case side4 => exact (Kd.V_reads' HO_1.out).2.1); rintro e w17 ⟨v178, rfl, ho0, hb⟩; refine ⟨_, rfl, ?_⟩; have n0_ := Aside0.mk (Kd.V_elder' (by (with_reducible repeat (first | apply Kd.V_alloc | apply Kd.V_drewN | apply Kd.V_drew)); exact HO_1.out) (Kd.R_base ho0) hb); have n1_ := Aside0.mk (Kd.R_lower (Kd.R_newM (M := fun k_ => (w.heap.size ≤ k_)) ho0 (below_size (by repeat (first | (with_reducible first | exact HB.out | apply below_alloc | apply pw_below_drewN | apply below_drew1) | exact HB.out))) (fun k_ h_ => h_)) (below_size (by repeat (first | (with_reducible first | exact HB.out | apply below_alloc | apply pw_below_drewN | apply below_drew1) | exact HB.out)))); have n2_ := Aside0.mk (below_step (by repeat (first | (with_reducible first | exact HB.out | apply below_alloc | apply pw_below_drewN | apply below_drew1) | exact HB.out)) hb); clear HO_1; clear HB; have HO_1 := n0_; have HO179 := n1_; have HB := n2_; clear n0_ n1_ n2_; (try clear hb); (try clear hb2); (try clear hk); (try clear hi); (try clear ho0)))
                go_roundg k1
                case measure => have := HK1.out; omega
                case rel => exact ⟨(t177), (wrap64 (x13_1 + 1)), (by first | rfl | (simp; done) | (simp [*]; done)), H', ⟨by have := HK1.out; omega⟩, ⟨Kd.V_mono (Kd.R_V (by (with_reducible repeat (first | apply Kd.R_alloc | apply Kd.R_drewN | apply Kd.R_drew)); exact Kd.R_mono HO179.out (fun _ hk => hk.1))) (fun k_ hk => by first | exact ⟨(.inr (hk.1)), hk.2⟩ | exact (.inr (hk)))⟩, ⟨by repeat (first | (with_reducible first | exact HB.out | apply below_alloc | apply pw_below_drewN | apply below_drew1) | exact HB.out)⟩⟩
            · rw [if_neg c9] at H
              exact absurd H (by simp)
          · rw [if_neg c7] at H
            exact absurd H (by simp)
        · rw [if_neg c6] at H
          exact absurd H (by simp)
      · rw [if_neg c5] at H
        have c5b0 : decide (x13_1 < (l2.length : Int)) = false := decide_eq_false c5
        clear c5
        obtain rfl := Option.some.inj H
        go_wp2
        go_ret
        exact ⟨_, by first | rfl | (simp [errW_none, errW_some] <;> rfl) | (simp [*, errW_none, errW_some] <;> rfl), by (with_reducible repeat (first | apply Kd.V_alloc | apply Kd.V_drewN | apply Kd.V_drew)); exact HO_1.out, by repeat (first | (with_reducible first | exact HB.out | apply below_alloc | apply pw_below_drewN | apply below_drew1) | exact HB.out)⟩
def impl_toy_Size.f (a0_0 : Int) (a0_1 : Int) (a0_2 : Int) (a0_3 : Int) (a0_4 : Int) (a0_5 : Int) : Option (Int) := some a0_1
set_option maxHeartbeats 8000000 in
set_option maxRecDepth 100000 in
theorem impl_toy_Size.calls (a0_0 : Int) (a0_1 : Int) (a0_2 : Int) (a0_3 : Int) (a0_4 : Int) (a0_5 : Int) (r : Int) (w : World) (h : impl_toy_Size.f a0_0 a0_1 a0_2 a0_3 a0_4 a0_5 = some r) :
    Calls Tryd.prog 155 #[.agg #[.int .i64 a0_0, .int .i64 a0_1, .int .i64 a0_2, .int .u64 a0_3, .int .u64 a0_4, .int .u64 a0_5]] w fun e w' => e = .returned (.int .i64 r) ∧ Below w.heap.size w w' := by
  have hu114 := Tryd.underlying114
  have HB := Aside0.mk (Below.refl w.heap.size w)
  have H : (some a0_1) = some r := h
  clear h
  obtain rfl := Option.some.inj H
  go_enter Tryd.func155, Tryd.ntmps155
  go_wp2_with (first | ((with_reducible refine gate_dst (N := 1) rfl ?_); refine box_event ?hg (N := 1) ?hd (cs := #[.int .i64 a0_0, .int .i64 a0_1, .int .i64 a0_2, .int .u64 a0_3, .int .u64 a0_4, .int .u64 a0_5]) (t := 114) ?hr ?_; (case hd => rfl); (case hg => rfl); (case hr => first | (go_simp; done) | (go_simp; rfl)); intro gb180 hg w2 hbox hb; have n0_ := Aside0.mk (below_step (by repeat (first | (with_reducible first | exact HB.out | apply below_alloc | apply pw_below_drewN | apply below_drew1) | exact HB.out)) hb); have n1_ := Aside0.mk (hbox); have n2_ := Aside0.mk ((by rw [hg]; exact (below_size (by repeat (first | (with_reducible first | exact HB.out | apply below_alloc | apply pw_below_drewN | apply below_drew1) | exact HB.out))) : w.heap.size ≤ gb180)); have n3_ := Aside0.mk ((by rw [hg]; exact (below_size (by repeat (first | (with_reducible first | exact HB.out | apply below_alloc | apply pw_below_drewN | apply below_drew1) | exact HB.out))) : w.heap.size ≤ gb180)); clear HB; have HB := n0_; have BK180 := n1_; have GW180 := n2_; have GE180 := n3_; clear n0_ n1_ n2_ n3_; clear hb hbox hg; have hcz3_0 : w2.cell? ⟨gb180, 0, none⟩ = some (.int .i64 a0_0) := (blk_cell BK180.out 0).trans rfl; have hcz3_1 : w2.cell? ⟨gb180, 1, none⟩ = some (.int .i64 a0_1) := (blk_cell BK180.out 1).trans rfl; have hcz3_2 : w2.cell? ⟨gb180, 2, none⟩ = some (.int .i64 a0_2) := (blk_cell BK180.out 2).trans rfl; have hcz3_3 : w2.cell? ⟨gb180, 3, none⟩ = some (.int .u64 a0_3) := (blk_cell BK180.out 3).trans rfl; have hcz3_4 : w2.cell? ⟨gb180, 4, none⟩ = some (.int .u64 a0_4) := (blk_cell BK180.out 4).trans rfl; have hcz3_5 : w2.cell? ⟨gb180, 5, none⟩ = some (.int .u64 a0_5) := (blk_cell BK180.out 5).trans rfl; have hfz3_0 := blk_frozen BK180.out 0; have hfz3_1 := blk_frozen BK180.out 1; have hfz3_2 := blk_frozen BK180.out 2; have hfz3_3 := blk_frozen BK180.out 3; have hfz3_4 := blk_frozen BK180.out 4; have hfz3_5 := blk_frozen BK180.out 5))
  go_ret
  exact ⟨by first | rfl | (simp [errW_none, errW_some] <;> rfl) | (simp [*, errW_none, errW_some] <;> rfl), by repeat (first | (with_reducible first | exact HB.out | apply below_alloc | apply pw_below_drewN | apply below_drew1 | refine below_set ?_ GE180.out) | exact HB.out)⟩
def proof_RootFromInclusionProof.f (k : Nat) (a0_0 : Int) (a0_1 : Int) (a0_2 : Int) (a0_3 : Int) (a0_4 : Int) (a0_5 : Int) (a1 : Int) (a2 : Int) (l3 : List Int) (l4 : List (List Int)) : Option (List Int × Option Int) := if a1 ≥ a2 then ((errors_New.f (⟨#[105, 110, 100, 101, 120, 32, 105, 115, 32, 98, 101, 121, 111, 110, 100, 32, 115, 105, 122, 101, 32, 62]⟩ : ByteArray)).bind fun t181 => (some (([] : List Int), t181))) else ((impl_toy_Size.f a0_0 a0_1 a0_2 a0_3 a0_4 a0_5).bind fun t183 => (if (l3.length : Int) = t183 then ((proof_decompInclProof.f a1 a2).bind fun bt186 => (if (l4.length : Int) = (wrap64 (bt186.1 + bt186.2)) then (if 0 ≤ bt186.1 then (if bt186.1 ≤ (l4.length : Int) then ((proof_chainInner.f k a0_0 a0_1 a0_2 a0_3 a0_4 a0_5 l3 (l4.take (bt186.1 : Int).toNat) a1).bind fun t192 => ((proof_chainBorderRight.f k a0_0 a0_1 a0_2 a0_3 a0_4 a0_5 t192 (l4.drop (bt186.1 : Int).toNat)).bind fun t199 => (some (t199, none)))) else (none)) else (none)) else ((errors_New.f (⟨#[119, 114, 111, 110, 103, 32, 112, 114, 111, 111, 102, 32, 115, 105, 122, 101, 44, 32, 119, 97, 110, 116]⟩ : ByteArray)).bind fun t202 => (some (([] : List Int), t202))))) else ((errors_New.f (⟨#[108, 101, 97, 102, 72, 97, 115, 104, 32, 104, 97, 115, 32, 117, 110, 101, 120, 112, 101, 99, 116, 101, 100, 32, 115, 105, 122, 101, 44, 32, 119, 97, 110, 116]⟩ : ByteArray)).bind fun t184 => (some (([] : List Int), t184)))))
theorem proof_RootFromInclusionProof.mono : ∀ a0 a1 a2 a3 a4 a5 a6 a7 a8 a9 k, LeO (proof_RootFromInclusionProof.f k a0 a1 a2 a3 a4 a5 a6 a7 a8 a9) (proof_RootFromInclusionProof.f (k + 1) a0 a1 a2 a3 a4 a5 a6 a7 a8 a9) := by
  intro a0 a1 a2 a3 a4 a5 a6 a7 a8 a9 k
  unfold proof_RootFromInclusionProof.f
  repeat' first
      | (with_reducible exact proof_chainBorderRight.mono _ _ _ _ _ _ _ _ _)
      | (with_reducible exact proof_chainInner.mono _ _ _ _ _ _ _ _ _ _)
      | (with_reducible exact LeO.refl _)
      | (with_reducible exact LeO.none _)
      | (with_reducible refine LeO.ite ?_ ?_)
      | (with_reducible refine LeO.bind ?_ (fun _ => ?_))
      | exact proof_chainBorderRight.mono _ _ _ _ _ _ _ _ _
      | exact proof_chainInner.mono _ _ _ _ _ _ _ _ _ _
      | exact LeO.none _
      | refine LeO.ite ?_ ?_
      | refine LeO.bind ?_ (fun _ => ?_)
set_option maxHeartbeats 8000000 in
set_option maxRecDepth 100000 in
theorem proof_RootFromInclusionProof.calls (k : Nat) (a0_0 : Int) (a0_1 : Int) (a0_2 : Int) (a0_3 : Int) (a0_4 : Int) (a0_5 : Int) (a1 : Int) (a2 : Int) (P3_ : Nat → Prop) (A3 : Option Addr) (c3 : Nat) (l3 : List Int) (A4 : Option Addr) (c4 : Nat) (l4 : List (List Int)) (r1 : List Int) (r2 : Option Int) (w : World) (hs3 : Kd.V (Kd.int .u8) 5 w w.heap.size (fun k_ => P3_ k_) (.slice A3 l3.length c3) l3) (hr4 : Kd.C (Kd.slice 5 (Kd.int .u8)) w A4 l4.length l4) (hc4 : l4.length ≤ c4) (h : proof_RootFromInclusionProof.f k a0_0 a0_1 a0_2 a0_3 a0_4 a0_5 a1 a2 l3 l4 = some (r1, r2)) :
    Calls Tryd.prog 102 #[.iface 114 (.agg #[.int .i64 a0_0, .int .i64 a0_1, .int .i64 a0_2, .int .u64 a0_3, .int .u64 a0_4, .int .u64 a0_5]), .int .u64 a1, .int .u64 a2, .slice A3 l3.length c3, .slice A4 l4.length c4] w fun e w' => ∃ v0_ : Value, ∃ q1_ : Nat, e = .returned (.tuple #[v0_, errW q1_ r2]) ∧ Kd.V (Kd.int .u8) 5 w' w.heap.size (fun k_ => (P3_ k_ ∨ w.heap.size ≤ k_)) v0_ r1 ∧ Below w.heap.size w w' := by
  have HO3 := Aside0.mk (show Kd.V (Kd.int .u8) 5 w w.heap.size (fun k_ => (P3_ k_ ∨ w.heap.size ≤ k_)) (.slice A3 l3.length c3) l3 from Kd.V_mono hs3 (fun k_ hk => .inl hk))
  have HR4 := Aside0.mk hr4
  have HC4 := Aside0.mk hc4
  clear hr4 hc4
  have HB := Aside0.mk (Below.refl w.heap.size w)
  have H : (if a1 ≥ a2 then ((errors_New.f (⟨#[105, 110, 100, 101, 120, 32, 105, 115, 32, 98, 101, 121, 111, 110, 100, 32, 115, 105, 122, 101, 32, 62]⟩ : ByteArray)).bind fun t181 => (some (([] : List Int), t181))) else ((impl_toy_Size.f a0_0 a0_1 a0_2 a0_3 a0_4 a0_5).bind fun t183 => (if (l3.length : Int) = t183 then ((proof_decompInclProof.f a1 a2).bind fun bt186 => (if (l4.length : Int) = (wrap64 (bt186.1 + bt186.2)) then (if 0 ≤ bt186.1 then (if bt186.1 ≤ (l4.length : Int) then ((proof_chainInner.f k a0_0 a0_1 a0_2 a0_3 a0_4 a0_5 l3 (l4.take (bt186.1 : Int).toNat) a1).bind fun t192 => ((proof_chainBorderRight.f k a0_0 a0_1 a0_2 a0_3 a0_4 a0_5 t192 (l4.drop (bt186.1 : Int).toNat)).bind fun t199 => (some (t199, none)))) else (none)) else (none)) else ((errors_New.f (⟨#[119, 114, 111, 110, 103, 32, 112, 114, 111, 111, 102, 32, 115, 105, 122, 101, 44, 32, 119, 97, 110, 116]⟩ : ByteArray)).bind fun t202 => (some (([] : List Int), t202))))) else ((errors_New.f (⟨#[108, 101, 97, 102, 72, 97, 115, 104, 32, 104, 97, 115, 32, 117, 110, 101, 120, 112, 101, 99, 116, 101, 100, 32, 115, 105, 122, 101, 44, 32, 119, 97, 110, 116]⟩ : ByteArray)).bind fun t184 => (some (([] : List Int), t184)))))) = some (r1, r2) := h
  clear h
  by_cases c6 : a1 ≥ a2
  · rw [if_pos c6] at H
    have c6b0 : decide (a2 ≤ a1) = true := decide_eq_true c6
    clear c6
    replace H := Option.bind_eq_some_iff.mp H
    obtain ⟨t181, A70, H⟩ := H
    replace H : (some (([] : List Int), t181)) = some (r1, r2) := H
    have A7 := Aside0.mk A70
    clear A70
    simp only [Option.some.injEq, Prod.mk.injEq] at H
    obtain ⟨rfl, rfl⟩ := H
    go_enter Tryd.func102, Tryd.ntmps102
    go_wp2_with (first | ((with_reducible refine gate_callee (f := 114) rfl ?_); refine goesL_ (some 22) rfl rfl Tryd.func114 (by kernel_rfl) rfl #[.string (⟨#[105, 110, 100, 101, 120, 32, 105, 115, 32, 98, 101, 121, 111, 110, 100, 32, 115, 105, 122, 101, 32, 62]⟩ : ByteArray)] rfl (by (try simp only [List.map_toArray, List.map_cons, List.map_nil]); first | done | rfl | (simp only [List.length_drop, List.length_take]; rfl)) ?_; (with_reducible refine (errors_New.calls (⟨#[105, 110, 100, 101, 120, 32, 105, 115, 32, 98, 101, 121, 111, 110, 100, 32, 115, 105, 122, 101, 32, 62]⟩ : ByteArray) t181 _ A7.out).mono ?_); rintro e w8 ⟨qe182, rfl, hb⟩; refine ⟨_, rfl, ?_⟩; have n0_ := Aside0.mk (Kd.V_below (by (with_reducible repeat (first | apply Kd.V_alloc | apply Kd.V_drewN | apply Kd.V_drew)); exact HO3.out) hb); have n1_ := Aside0.mk (below_step (by repeat (first | (with_reducible first | exact HB.out | apply below_alloc | apply pw_below_drewN | apply below_drew1) | exact HB.out)) hb); clear HO3; clear HB; have HO3 := n0_; have HB := n1_; clear n0_ n1_; (try clear hb); (try clear hb2); (try clear hk); (try clear hi); (try simp only [errW_none, errW_some])))
    go_ret2
    first | exact ⟨_, qe182, by first | rfl | (simp [errW_none, errW_some] <;> rfl) | (simp [*, errW_none, errW_some] <;> rfl), Kd.V_mono (Kd.V_nil _ _ _ _ _) (fun k_ hk => by first | exact ⟨(.inr (hk.1)), hk.2⟩ | exact (.inr (hk))), by repeat (first | (with_reducible first | exact HB.out | apply below_alloc | apply pw_below_drewN | apply below_drew1) | exact HB.out)⟩ | exact ⟨_, ⟨qe182, by first | rfl | (simp [errW_none, errW_some] <;> rfl) | (simp [*, errW_none, errW_some] <;> rfl)⟩, Kd.V_mono (Kd.V_nil _ _ _ _ _) (fun k_ hk => by first | exact ⟨(.inr (hk.1)), hk.2⟩ | exact (.inr (hk))), by repeat (first | (with_reducible first | exact HB.out | apply below_alloc | apply pw_below_drewN | apply below_drew1) | exact HB.out)⟩
  · rw [if_neg c6] at H
    have c6b0 : decide (a2 ≤ a1) = false := decide_eq_false c6
    clear c6
    replace H := Option.bind_eq_some_iff.mp H
    obtain ⟨t183, A90, H⟩ := H
    replace H : (if (l3.length : Int) = t183 then ((proof_decompInclProof.f a1 a2).bind fun bt186 => (if (l4.length : Int) = (wrap64 (bt186.1 + bt186.2)) then (if 0 ≤ bt186.1 then (if bt186.1 ≤ (l4.length : Int) then ((proof_chainInner.f k a0_0 a0_1 a0_2 a0_3 a0_4 a0_5 l3 (l4.take (bt186.1 : Int).toNat) a1).bind fun t192 => ((proof_chainBorderRight.f k a0_0 a0_1 a0_2 a0_3 a0_4 a0_5 t192 (l4.drop (bt186.1 : Int).toNat)).bind fun t199 => (some (t199, none)))) else (none)) else (none)) else ((errors_New.f (⟨#[119, 114, 111, 110, 103, 32, 112, 114, 111, 111, 102, 32, 115, 105, 122, 101, 44, 32, 119, 97, 110, 116]⟩ : ByteArray)).bind fun t202 => (some (([] : List Int), t202))))) else ((errors_New.f (⟨#[108, 101, 97, 102, 72, 97, 115, 104, 32, 104, 97, 115, 32, 117, 110, 101, 120, 112, 101, 99, 116, 101, 100, 32, 115, 105, 122, 101, 44, 32, 119, 97, 110, 116]⟩ : ByteArray)).bind fun t184 => (some (([] : List Int), t184)))) = some (r1, r2) := H
    have A9 := Aside0.mk A90
    clear A90
    by_cases c10 : (l3.length : Int) = t183
    · rw [if_pos c10] at H
      have c10b0 : ((l3.length : Int) == t183) = true := beq_iff_eq.mpr c10
      have c10b1 : ((l3.length : Int) != t183) = false := bne_eq_false_iff_eq.mpr c10
      clear c10
      replace H := Option.bind_eq_some_iff.mp H
      obtain ⟨⟨t186, t187⟩, A110, H⟩ := H
      replace H : (if (l4.length : Int) = (wrap64 (t186 + t187)) then (if 0 ≤ t186 then (if t186 ≤ (l4.length : Int) then ((proof_chainInner.f k a0_0 a0_1 a0_2 a0_3 a0_4 a0_5 l3 (l4.take (t186 : Int).toNat) a1).bind fun t192 => ((proof_chainBorderRight.f k a0_0 a0_1 a0_2 a0_3 a0_4 a0_5 t192 (l4.drop (t186 : Int).toNat)).bind fun t199 => (some (t199, none)))) else (none)) else (none)) else ((errors_New.f (⟨#[119, 114, 111, 110, 103, 32, 112, 114, 111, 111, 102, 32, 115, 105, 122, 101, 44, 32, 119, 97, 110, 116]⟩ : ByteArray)).bind fun t202 => (some (([] : List Int), t202)))) = some (r1, r2) := H
      have A11 := Aside0.mk A110
      clear A110
      by_cases c12 : (l4.length : Int) = (wrap64 (t186 + t187))
      · rw [if_pos c12] at H
        have c12b0 : ((l4.length : Int) == (wrap64 (t186 + t187))) = true := beq_iff_eq.mpr c12
        have c12b1 : ((l4.length : Int) != (wrap64 (t186 + t187))) = false := bne_eq_false_iff_eq.mpr c12
        clear c12
        by_cases c13 : 0 ≤ t186
        · rw [if_pos c13] at H
          have c13b0 := eq_true c13
          have c13b1 : decide (0 ≤ t186) = true := decide_eq_true c13
          clear c13
          by_cases c14 : t186 ≤ (l4.length : Int)
          · rw [if_pos c14] at H
            have c14b0 := eq_true c14
            have c14b1 : decide (t186 ≤ (l4.length : Int)) = true := decide_eq_true c14
            clear c14
            obtain ⟨y188, hy188⟩ : ∃ y_ : List (List Int), y_ = (l4.take (t186 : Int).toNat) := ⟨_, rfl⟩
            replace H : ((proof_chainInner.f k a0_0 a0_1 a0_2 a0_3 a0_4 a0_5 l3 y188 a1).bind fun t192 => ((proof_chainBorderRight.f k a0_0 a0_1 a0_2 a0_3 a0_4 a0_5 t192 (l4.drop (t186 : Int).toNat)).bind fun t199 => (some (t199, none)))) = some (r1, r2) := by first | (rw [hy188]; with_reducible exact H) | (have H2_ := (Option.bind_some _ _).symm.trans H; rw [hy188]; with_reducible exact H2_) | (have H2_ := (Option.bind_some _ _).symm.trans H; with_reducible exact H2_) | with_reducible exact H | (rw [hy188]; exact H) | exact H
            have Ny188 := Aside0.mk hy188
            clear hy188
            replace H := Option.bind_eq_some_iff.mp H
            obtain ⟨t192, A150, H⟩ := H
            replace H : ((proof_chainBorderRight.f k a0_0 a0_1 a0_2 a0_3 a0_4 a0_5 t192 (l4.drop (t186 : Int).toNat)).bind fun t199 => (some (t199, none))) = some (r1, r2) := H
            have A15 := Aside0.mk A150
            clear A150
            have c16b0 := eq_true (of_decide_eq_true (by first | (with_reducible assumption) | assumption) : 0 ≤ t186)
            have c17b0 := eq_true (of_decide_eq_true (by first | (with_reducible assumption) | assumption) : t186 ≤ (l4.length : Int))
            obtain ⟨y195, hy195⟩ : ∃ y_ : List (List Int), y_ = (l4.drop (t186 : Int).toNat) := ⟨_, rfl⟩
            replace H : ((proof_chainBorderRight.f k a0_0 a0_1 a0_2 a0_3 a0_4 a0_5 t192 y195).bind fun t199 => (some (t199, none))) = some (r1, r2) := by first | (rw [hy195]; with_reducible exact H) | (have H2_ := (Option.bind_some _ _).symm.trans H; rw [hy195]; with_reducible exact H2_) | (have H2_ := (Option.bind_some _ _).symm.trans H; with_reducible exact H2_) | with_reducible exact H | (rw [hy195]; exact H) | exact H
            have Ny195 := Aside0.mk hy195
            clear hy195
            replace H := Option.bind_eq_some_iff.mp H
            obtain ⟨t199, A180, H⟩ := H
            replace H : (some (t199, none)) = some (r1, r2) := H
            have A18 := Aside0.mk A180
            clear A180
            simp only [Option.some.injEq, Prod.mk.injEq] at H
            obtain ⟨rfl, rfl⟩ := H
            go_enter Tryd.func102, Tryd.ntmps102
            go_wp2_with (first | ((with_reducible refine gate_invoke (name := "Size") rfl ?_); refine goesLI_ (some 26) rfl rfl Tryd.func155 (by kernel_rfl) rfl (u := 114) (v := .agg #[.int .i64 a0_0, .int .i64 a0_1, .int .i64 a0_2, .int .u64 a0_3, .int .u64 a0_4, .int .u64 a0_5]) (name := "Size") #[] #[.agg #[.int .i64 a0_0, .int .i64 a0_1, .int .i64 a0_2, .int .u64 a0_3, .int .u64 a0_4, .int .u64 a0_5]] rfl rfl (inv155 _ _) (by (try simp only [List.map_toArray, List.map_cons, List.map_nil]); first | done | rfl | (simp only [List.length_drop, List.length_take]; rfl)) rfl ?_; (with_reducible refine (impl_toy_Size.calls a0_0 a0_1 a0_2 a0_3 a0_4 a0_5 t183 _ A9.out).mono ?_); rintro e w19 ⟨rfl, hb⟩; refine ⟨_, rfl, ?_⟩; have n0_ := Aside0.mk (Kd.V_below (by (with_reducible repeat (first | apply Kd.V_alloc | apply Kd.V_drewN | apply Kd.V_drew)); exact HO3.out) hb); have n1_ := Aside0.mk (below_step (by repeat (first | (with_reducible first | exact HB.out | apply below_alloc | apply pw_below_drewN | apply below_drew1) | exact HB.out)) hb); clear HO3; clear HB; have HO3 := n0_; have HB := n1_; clear n0_ n1_; (try clear hb); (try clear hb2); (try clear hk); (try clear hi)) | ((with_reducible refine gate_callee (f := 117) rfl ?_); refine goesL_ (some 34) rfl rfl Tryd.func117 (by kernel_rfl) rfl #[.int .u64 a1, .int .u64 a2] rfl (by (try simp only [List.map_toArray, List.map_cons, List.map_nil]); first | done | rfl | (simp only [List.length_drop, List.length_take]; rfl)) ?_; (with_reducible refine (proof_decompInclProof.calls a1 a2 t186 t187 _ A11.out).mono ?_); rintro e w' ⟨rfl, ⟨nd, rfl⟩⟩; refine ⟨_, rfl, ?_⟩; have q20 : (t186 : Int) ≤ ((l4.length : Int) : Int) := of_decide_eq_true (by first | (with_reducible assumption) | assumption); obtain ⟨i020, hi020, _, hsz20, _⟩ := info_parts info42; have hroom20 : l4.length ≤ c4 := HC4.out; have hC20 : Kd.C (Kd.slice 5 (Kd.int .u8)) _ A4 l4.length l4 := HR4.out; have hcut20 := cut_to (P := Tryd.prog) 38 42 .i64 Tryd.underlying38 hi020 A4 l4.length c4 t186 (of_decide_eq_true (by first | (with_reducible assumption) | assumption)) q20 hroom20; have hr20 := Kd.C_take (m := (t186 : Int).toNat) hC20 (by omega); have hy20 : y188.length = (t186 : Int).toNat := (by rw [Ny188.out, List.length_take]; omega); rw [← Ny188.out] at hr20; rw [← hy20] at hcut20; have HR191 := Aside0.mk hr20; have HC191 := Aside0.mk (show y188.length ≤ c4 from by omega); clear hr20 hC20 hroom20 hi020 hsz20; have KY20 := Aside0.mk hy20; clear hy20; replace q20 := eq_true q20) | ((with_reducible refine gate_callee (f := 120) rfl ?_); refine goesL_ (some 52) rfl rfl Tryd.func120 (by kernel_rfl) rfl #[.iface 114 (.agg #[.int .i64 a0_0, .int .i64 a0_1, .int .i64 a0_2, .int .u64 a0_3, .int .u64 a0_4, .int .u64 a0_5]), .slice A3 l3.length c3, .slice A4 y188.length c4, .int .u64 a1] rfl (by (try simp only [List.map_toArray, List.map_cons, List.map_nil]); first | done | rfl | (simp only [List.length_drop, List.length_take]; rfl)) ?_; (with_reducible refine (proof_chainInner.calls k a0_0 a0_1 a0_2 a0_3 a0_4 a0_5 (fun k_ => (P3_ k_ ∨ w.heap.size ≤ k_)) _ _ l3 _ _ y188 a1 t192 _ ?side1 ?side2 ?side3 A15.out).mono ?_); (case side1 => first | exact HO3.out | exact Kd.V_mono HO3.out (fun k_ hk_ => ⟨⟨hk_.1, hk_.2.1⟩, hk_.2.2⟩)); (case side2 => repeat (first | exact (Kd.C_below HR191.out (by repeat (first | (with_reducible first | exact HB.out | apply below_alloc | apply pw_below_drewN | apply below_drew1) | exact HB.out))) | (with_reducible refine Kd.C_alloc ?_ _) | (with_reducible refine Kd.C_drewN ?_ _) | (with_reducible refine Kd.C_drew ?_))); (case side3 => exact HC191.out); rintro e w21 ⟨v193, rfl, ho0, hb⟩; refine ⟨_, rfl, ?_⟩; have n0_ := Aside0.mk (Kd.V_below (by (with_reducible repeat (first | apply Kd.V_alloc | apply Kd.V_drewN | apply Kd.V_drew)); exact HO3.out) hb); have n1_ := Aside0.mk (Kd.V_lower (Kd.V_mono (ok' := fun k_ => (P3_ k_ ∨ w.heap.size ≤ k_)) ho0 (fun k_ hk_ => Or.elim hk_ (fun hs_ => hs_) (fun hn_ => (.inr (Nat.le_trans (below_size (by repeat (first | (with_reducible first | exact HB.out | apply below_alloc | apply pw_below_drewN | apply below_drew1) | exact HB.out))) hn_))))) (below_size (by repeat (first | (with_reducible first | exact HB.out | apply below_alloc | apply pw_below_drewN | apply below_drew1) | exact HB.out)))); have n2_ := Aside0.mk (below_step (by repeat (first | (with_reducible first | exact HB.out | apply below_alloc | apply pw_below_drewN | apply below_drew1) | exact HB.out)) hb); clear HO3; clear HB; have HO3 := n0_; have HO194 := n1_; have HB := n2_; clear n0_ n1_ n2_; (try clear hb); (try clear hb2); (try clear hk); (try clear hi); (try clear ho0); have q22 : (t186 : Int) ≤ ((l4.length : Int) : Int) := of_decide_eq_true (by first | (with_reducible assumption) | assumption); obtain ⟨i022, hi022, _, hsz22, _⟩ := info_parts info42; have hroom22 : l4.length ≤ c4 := HC4.out; have hC22 : Kd.C (Kd.slice 5 (Kd.int .u8)) _ A4 l4.length l4 := HR4.out; have q022 : (0 : Int) ≤ (t186 : Int) := of_decide_eq_true (by first | (with_reducible assumption) | assumption); have hcut22 := cut_from (P := Tryd.prog) 38 42 .i64 Tryd.underlying38 hi022 1 hsz22 A4 l4.length c4 t186 q022 q22; have hr22 := Kd.C_drop (m := (t186 : Int).toNat) (c := c4) hC22 (by omega) hroom22; obtain ⟨A22, hA22⟩ : ∃ A1q_, A1q_ = (if c4 = (t186 : Int).toNat then A4 else (A4 : Option Addr).map (·.add ((t186 : Int).toNat * 1))) := ⟨_, rfl⟩; obtain ⟨c22, hc22⟩ : ∃ c1q_, c1q_ = c4 - (t186 : Int).toNat := ⟨_, rfl⟩; have hy22 : y195.length = l4.length - (t186 : Int).toNat := (by rw [Ny195.out, List.length_drop] <;> omega); rw [show (l4).drop (t186 : Int).toNat = y195 from Ny195.out.symm] at hr22; replace hr22 : Kd.C (Kd.slice 5 (Kd.int .u8)) _ A22 y195.length y195 := (by rw [hA22]; exact hr22); rw [← hy22, ← hA22, ← hc22] at hcut22; have HR198 := Aside0.mk hr22; have HC198 := Aside0.mk (show y195.length ≤ c22 from by rw [hy22, hc22]; exact Nat.sub_le_sub_right hroom22 _); clear hr22 hC22 hroom22 hi022 hsz22 hc22; have KY22 := Aside0.mk hy22; have KA22 := Aside0.mk hA22; clear hy22 hA22; replace q22 := eq_true q22; obtain ⟨Ao23, co23, eo23⟩ := Kd.V_slice HO194.out; subst eo23) | ((with_reducible refine gate_callee (f := 119) rfl ?_); refine goesL_ (some 58) rfl rfl Tryd.func119 (by kernel_rfl) rfl #[.iface 114 (.agg #[.int .i64 a0_0, .int .i64 a0_1, .int .i64 a0_2, .int .u64 a0_3, .int .u64 a0_4, .int .u64 a0_5]), .slice Ao23 t192.length co23, .slice A22 y195.length c22] rfl (by (try simp only [List.map_toArray, List.map_cons, List.map_nil]); first | done | rfl | (simp only [List.length_drop, List.length_take]; rfl)) ?_; (with_reducible refine (proof_chainBorderRight.calls k a0_0 a0_1 a0_2 a0_3 a0_4 a0_5 (fun k_ => (P3_ k_ ∨ w.heap.size ≤ k_)) _ _ t192 _ _ y195 t199 _ ?side1 ?side2 ?side3 A18.out).mono ?_); (case side1 => first | exact HO194.out | exact Kd.V_mono HO194.out (fun k_ hk_ => ⟨⟨hk_.1, hk_.2.1⟩, hk_.2.2⟩)); (case side2 => repeat (first | exact (Kd.C_below HR198.out HB.out) | (with_reducible refine Kd.C_alloc ?_ _) | (with_reducible refine Kd.C_drewN ?_ _) | (with_reducible refine Kd.C_drew ?_))); (case side3 => exact HC198.out); rintro e w24 ⟨v200, rfl, ho0, hb⟩; refine ⟨_, rfl, ?_⟩; have n0_ := Aside0.mk (Kd.V_below (by (with_reducible repeat (first | apply Kd.V_alloc | apply Kd.V_drewN | apply Kd.V_drew)); exact HO3.out) hb); have n1_ := Aside0.mk (Kd.V_below (by (with_reducible repeat (first | apply Kd.V_alloc | apply Kd.V_drewN | apply Kd.V_drew)); exact HO194.out) hb); have n2_ := Aside0.mk (Kd.V_lower (Kd.V_mono (ok' := fun k_ => (P3_ k_ ∨ w.heap.size ≤ k_)) ho0 (fun k_ hk_ => Or.elim hk_ (fun hs_ => hs_) (fun hn_ => (.inr (Nat.le_trans (below_size (by repeat (first | (with_reducible first | exact HB.out | apply below_alloc | apply pw_below_drewN | apply below_drew1) | exact HB.out))) hn_))))) (below_size (by repeat (first | (with_reducible first | exact HB.out | apply below_alloc | apply pw_below_drewN | apply below_drew1) | exact HB.out)))); have n3_ := Aside0.mk (below_step (by repeat (first | (with_reducible first | exact HB.out | apply below_alloc | apply pw_below_drewN | apply below_drew1) | exact HB.out)) hb); clear HO3; clear HO194; clear HB; have HO3 := n0_; have HO194 := n1_; have HO201 := n2_; have HB := n3_; clear n0_ n1_ n2_ n3_; (try clear hb); (try clear hb2); (try clear hk); (try clear hi); (try clear ho0)))
            go_ret2
            first | exact ⟨_, 0, by first | rfl | (simp [errW_none, errW_some] <;> rfl) | (simp [*, errW_none, errW_some] <;> rfl), by (with_reducible repeat (first | apply Kd.V_alloc | apply Kd.V_drewN | apply Kd.V_drew)); exact HO201.out, by repeat (first | (with_reducible first | exact HB.out | apply below_alloc | apply pw_below_drewN | apply below_drew1) | exact HB.out)⟩ | exact ⟨_, ⟨0, by first | rfl | (simp [errW_none, errW_some] <;> rfl) | (simp [*, errW_none, errW_some] <;> rfl)⟩, by (with_reducible repeat (first | apply Kd.V_alloc | apply Kd.V_drewN | apply Kd.V_drew)); exact HO201.out, by repeat (first | (with_reducible first | exact HB.out | apply below_alloc | apply pw_below_drewN | apply below_drew1) | exact HB.out)⟩
          · rw [if_neg c14] at H
            exact absurd H (by simp)
        · rw [if_neg c13] at H
          exact absurd H (by simp)
      · rw [if_neg c12] at H
        have c12b0 : ((l4.length : Int) == (wrap64 (t186 + t187))) = false := beq_eq_false_iff_ne.mpr c12
        have c12b1 : ((l4.length : Int) != (wrap64 (t186 + t187))) = true := bne_iff_ne.mpr c12
        replace H := Option.bind_eq_some_iff.mp H
        obtain ⟨t202, A250, H⟩ := H
        replace H : (some (([] : List Int), t202)) = some (r1, r2) := H
        have A25 := Aside0.mk A250
        clear A250
        simp only [Option.some.injEq, Prod.mk.injEq] at H
        obtain ⟨rfl, rfl⟩ := H
        go_enter Tryd.func102, Tryd.ntmps102
        go_wp2_with (first | ((with_reducible refine gate_invoke (name := "Size") rfl ?_); refine goesLI_ (some 26) rfl rfl Tryd.func155 (by kernel_rfl) rfl (u := 114) (v := .agg #[.int .i64 a0_0, .int .i64 a0_1, .int .i64 a0_2, .int .u64 a0_3, .int .u64 a0_4, .int .u64 a0_5]) (name := "Size") #[] #[.agg #[.int .i64 a0_0, .int .i64 a0_1, .int .i64 a0_2, .int .u64 a0_3, .int .u64 a0_4, .int .u64 a0_5]] rfl rfl (inv155 _ _) (by (try simp only [List.map_toArray, List.map_cons, List.map_nil]); first | done | rfl | (simp only [List.length_drop, List.length_take]; rfl)) rfl ?_; (with_reducible refine (impl_toy_Size.calls a0_0 a0_1 a0_2 a0_3 a0_4 a0_5 t183 _ A9.out).mono ?_); rintro e w26 ⟨rfl, hb⟩; refine ⟨_, rfl, ?_⟩; have n0_ := Aside0.mk (Kd.V_below (by (with_reducible repeat (first | apply Kd.V_alloc | apply Kd.V_drewN | apply Kd.V_drew)); exact HO3.out) hb); have n1_ := Aside0.mk (below_step (by repeat (first | (with_reducible first | exact HB.out | apply below_alloc | apply pw_below_drewN | apply below_drew1) | exact HB.out)) hb); clear HO3; clear HB; have HO3 := n0_; have HB := n1_; clear n0_ n1_; (try clear hb); (try clear hb2); (try clear hk); (try clear hi)) | ((with_reducible refine gate_callee (f := 117) rfl ?_); refine goesL_ (some 34) rfl rfl Tryd.func117 (by kernel_rfl) rfl #[.int .u64 a1, .int .u64 a2] rfl (by (try simp only [List.map_toArray, List.map_cons, List.map_nil]); first | done | rfl | (simp only [List.length_drop, List.length_take]; rfl)) ?_; (with_reducible refine (proof_decompInclProof.calls a1 a2 t186 t187 _ A11.out).mono ?_); rintro e w' ⟨rfl, ⟨nd, rfl⟩⟩; refine ⟨_, rfl, ?_⟩) | ((with_reducible refine gate_callee (f := 114) rfl ?_); refine goesL_ (some 45) rfl rfl Tryd.func114 (by kernel_rfl) rfl #[.string (⟨#[119, 114, 111, 110, 103, 32, 112, 114, 111, 111, 102, 32, 115, 105, 122, 101, 44, 32, 119, 97, 110, 116]⟩ : ByteArray)] rfl (by (try simp only [List.map_toArray, List.map_cons, List.map_nil]); first | done | rfl | (simp only [List.length_drop, List.length_take]; rfl)) ?_; (with_reducible refine (errors_New.calls (⟨#[119, 114, 111, 110, 103, 32, 112, 114, 111, 111, 102, 32, 115, 105, 122, 101, 44, 32, 119, 97, 110, 116]⟩ : ByteArray) t202 _ A25.out).mono ?_); rintro e w27 ⟨qe203, rfl, hb⟩; refine ⟨_, rfl, ?_⟩; have n0_ := Aside0.mk (Kd.V_below (by (with_reducible repeat (first | apply Kd.V_alloc | apply Kd.V_drewN | apply Kd.V_drew)); exact HO3.out) hb); have n1_ := Aside0.mk (below_step (by repeat (first | (with_reducible first | exact HB.out | apply below_alloc | apply pw_below_drewN | apply below_drew1) | exact HB.out)) hb); clear HO3; clear HB; have HO3 := n0_; have HB := n1_; clear n0_ n1_; (try clear hb); (try clear hb2); (try clear hk); (try clear hi); (try simp only [errW_none, errW_some])))
        go_ret2
        first | exact ⟨_, qe203, by first | rfl | (simp [errW_none, errW_some] <;> rfl) | (simp [*, errW_none, errW_some] <;> rfl), Kd.V_mono (Kd.V_nil _ _ _ _ _) (fun k_ hk => by first | exact ⟨(.inr (hk.1)), hk.2⟩ | exact (.inr (hk))), by repeat (first | (with_reducible first | exact HB.out | apply below_alloc | apply pw_below_drewN | apply below_drew1) | exact HB.out)⟩ | exact ⟨_, ⟨qe203, by first | rfl | (simp [errW_none, errW_some] <;> rfl) | (simp [*, errW_none, errW_some] <;> rfl)⟩, Kd.V_mono (Kd.V_nil _ _ _ _ _) (fun k_ hk => by first | exact ⟨(.inr (hk.1)), hk.2⟩ | exact (.inr (hk))), by repeat (first | (with_reducible first | exact HB.out | apply below_alloc | apply pw_below_drewN | apply below_drew1) | exact HB.out)⟩
    · rw [if_neg c10] at H
      have c10b0 : ((l3.length : Int) == t183) = false := beq_eq_false_iff_ne.mpr c10
      have c10b1 : ((l3.length : Int) != t183) = true := bne_iff_ne.mpr c10
      replace H := Option.bind_eq_some_iff.mp H
      obtain ⟨t184, A280, H⟩ := H
      replace H : (some (([] : List Int), t184)) = some (r1, r2) := H
      have A28 := Aside0.mk A280
      clear A280
      simp only [Option.some.injEq, Prod.mk.injEq] at H
      obtain ⟨rfl, rfl⟩ := H
      go_enter Tryd.func102, Tryd.ntmps102
      go_wp2_with (first | ((with_reducible refine gate_invoke (name := "Size") rfl ?_); refine goesLI_ (some 26) rfl rfl Tryd.func155 (by kernel_rfl) rfl (u := 114) (v := .agg #[.int .i64 a0_0, .int .i64 a0_1, .int .i64 a0_2, .int .u64 a0_3, .int .u64 a0_4, .int .u64 a0_5]) (name := "Size") #[] #[.agg #[.int .i64 a0_0, .int .i64 a0_1, .int .i64 a0_2, .int .u64 a0_3, .int .u64 a0_4, .int .u64 a0_5]] rfl rfl (inv155 _ _) (by (try simp only [List.map_toArray, List.map_cons, List.map_nil]); first | done | rfl | (simp only [List.length_drop, List.length_take]; rfl)) rfl ?_; (with_reducible refine (impl_toy_Size.calls a0_0 a0_1 a0_2 a0_3 a0_4 a0_5 t183 _ A9.out).mono ?_); rintro e w29 ⟨rfl, hb⟩; refine ⟨_, rfl, ?_⟩; have n0_ := Aside0.mk (Kd.V_below (by (with_reducible repeat (first | apply Kd.V_alloc | apply Kd.V_drewN | apply Kd.V_drew)); exact HO3.out) hb); have n1_ := Aside0.mk (below_step (by repeat (first | (with_reducible first | exact HB.out | apply below_alloc | apply pw_below_drewN | apply below_drew1) | exact HB.out)) hb); clear HO3; clear HB; have HO3 := n0_; have HB := n1_; clear n0_ n1_; (try clear hb); (try clear hb2); (try clear hk); (try clear hi)) | ((with_reducible refine gate_callee (f := 114) rfl ?_); refine goesL_ (some 30) rfl rfl Tryd.func114 (by kernel_rfl) rfl #[.string (⟨#[108, 101, 97, 102, 72, 97, 115, 104, 32, 104, 97, 115, 32, 117, 110, 101, 120, 112, 101, 99, 116, 101, 100, 32, 115, 105, 122, 101, 44, 32, 119, 97, 110, 116]⟩ : ByteArray)] rfl (by (try simp only [List.map_toArray, List.map_cons, List.map_nil]); first | done | rfl | (simp only [List.length_drop, List.length_take]; rfl)) ?_; (with_reducible refine (errors_New.calls (⟨#[108, 101, 97, 102, 72, 97, 115, 104, 32, 104, 97, 115, 32, 117, 110, 101, 120, 112, 101, 99, 116, 101, 100, 32, 115, 105, 122, 101, 44, 32, 119, 97, 110, 116]⟩ : ByteArray) t184 _ A28.out).mono ?_); rintro e w30 ⟨qe185, rfl, hb⟩; refine ⟨_, rfl, ?_⟩; have n0_ := Aside0.mk (Kd.V_below (by (with_reducible repeat (first | apply Kd.V_alloc | apply Kd.V_drewN | apply Kd.V_drew)); exact HO3.out) hb); have n1_ := Aside0.mk (below_step (by repeat (first | (with_reducible first | exact HB.out | apply below_alloc | apply pw_below_drewN | apply below_drew1) | exact HB.out)) hb); clear HO3; clear HB; have HO3 := n0_; have HB := n1_; clear n0_ n1_; (try clear hb); (try clear hb2); (try clear hk); (try clear hi); (try simp only [errW_none, errW_some])))
      go_ret2
      first | exact ⟨_, qe185, by first | rfl | (simp [errW_none, errW_some] <;> rfl) | (simp [*, errW_none, errW_some] <;> rfl), Kd.V_mono (Kd.V_nil _ _ _ _ _) (fun k_ hk => by first | exact ⟨(.inr (hk.1)), hk.2⟩ | exact (.inr (hk))), by repeat (first | (with_reducible first | exact HB.out | apply below_alloc | apply pw_below_drewN | apply below_drew1) | exact HB.out)⟩ | exact ⟨_, ⟨qe185, by first | rfl | (simp [errW_none, errW_some] <;> rfl) | (simp [*, errW_none, errW_some] <;> rfl)⟩, Kd.V_mono (Kd.V_nil _ _ _ _ _) (fun k_ hk => by first | exact ⟨(.inr (hk.1)), hk.2⟩ | exact (.inr (hk))), by repeat (first | (with_reducible first | exact HB.out | apply below_alloc | apply pw_below_drewN | apply below_drew1) | exact HB.out)⟩
end Go.Proofs.YtijldedhcjkhiaaDoor.T
