import Derived.Test.YtijldedhcjkhiaaDoorSTT0
import Derived.Test.YtijldedhcjkhiaaDoorSTT3
import Derived.Test.YtijldedhcjkhiaaDoorSTT5
import Derived.Test.YtijldedhcjkhiaaDoorSTT6
namespace Go.Proofs.YtijldedhcjkhiaaDoor.T
open Go.RowKit Go.Proofs.YtijldedhcjkhiaaDoorW.PrintWords Go.Proofs.YtijldedhcjkhiaaDoorW.PrintLast Go.Proofs.YtijldedhcjkhiaaDoorW.PrintMore
attribute [local go_sem] max2_int min2_int max_two min_two max_three min_three max_four min_four   -- for this text's walks alone
set_option linter.unusedVariables false
set_option linter.unusedSimpArgs false
def impl_NewRange.f (k : Nat) (b e : Int) (l1 : List (List Int)) : Option Bool :=
  (impl_texts.f k l1).bind fun t => (compact_RangeSize.f b e).bind fun sz => if b ≤ e ∧ (t.length : Int) = sz then some true else none
theorem impl_NewRange.mono (b e : Int) (l1 : List (List Int)) : ∀ k, LeO (impl_NewRange.f k b e l1) (impl_NewRange.f (k + 1) b e l1) := by
  intro k
  unfold impl_NewRange.f
  exact LeO.bind (impl_texts.mono _ _) fun t => LeO.refl _
def impl_NewRange.T2 : Bool × List (List Nat × List Nat) := (true, [([], []), ([], []), ([1], [1]), ([], []), ([3], [3]), ([], []), ([5], [5]), ([6], [6]), ([0, 2, 4, 7, 7], [0, 2, 4, 7]), ([8], [8]), ([9], [9]), ([9], [9]), ([10, 8, 0, 1, 2, 3, 4, 5, 6, 7, 8, 9, 10], [10]), ([11, 12, 0, 1, 2, 3, 4, 5, 6, 7, 8, 9, 10, 11, 12], [11])])
def impl_NewRange.B2 : List Nat := [0, 0, 2, 0, 8, 0, 32, 96, 255, 511, 1023, 1023, 2047, 8191]
theorem impl_NewRange.tab2 : rtab .any (opsOf Tryd.f53 2) = impl_NewRange.T2 := by kernel_rfl
theorem impl_NewRange.bits2 : waitsOk impl_NewRange.T2.2 impl_NewRange.B2 = true := by kernel_rfl
set_option maxHeartbeats 8000000 in
set_option maxRecDepth 100000 in
theorem impl_NewRange.calls (k : Nat) (a1_0 : Int) (a1_1 : Int) (A1_2 : Option Addr) (c1_2 : Nat) (l1_2 : List (List Int)) (r : Bool) (w : World) (hr1_2 : Kd.C (Kd.slice 5 (Kd.int .u8)) w A1_2 l1_2.length l1_2) (hc1_2 : l1_2.length ≤ c1_2) (h : impl_NewRange.f k a1_0 a1_1 l1_2 = some r) :
    Calls Tryd.prog 53 #[.agg #[.int .u64 a1_0, .int .u64 a1_1, .slice A1_2 l1_2.length c1_2]] w fun e w' => e = .returned (.bool r) ∧ Below w.heap.size w w' := by
  have hu37 := Tryd.underlying37
  have hu40 := Tryd.underlying40
  have hu114 := Tryd.underlying114
  have hu117 := Tryd.underlying117
  have hu120 := Tryd.underlying120
  have hu38 := Tryd.underlying38
  have HR1 := Aside0.mk hr1_2
  have HB := Aside0.mk (Below.refl w.heap.size w)
  clear hr1_2
  unfold impl_NewRange.f at h
  replace h := Option.bind_eq_some_iff.mp h
  obtain ⟨t, hA1, H⟩ := h
  replace H := Option.bind_eq_some_iff.mp H
  obtain ⟨sz, hA2, H⟩ := H
  by_cases hsz : a1_0 ≤ a1_1 ∧ (t.length : Int) = sz
  case neg => rw [if_neg hsz] at H; cases H
  rw [if_pos hsz] at H
  obtain rfl := Option.some.inj H
  have A1 := Aside0.mk hA1
  have A2_ := Aside0.mk hA2
  have HBE := Aside0.mk hsz
  clear hA1 hA2 hsz H
  go_enter Tryd.func53, Tryd.ntmps53
  go_wp2_with (first | ((with_reducible refine gate_dst (N := 1) rfl ?_); refine box_event ?hg (N := 1) ?hd (cs := #[.int .u64 a1_0, .int .u64 a1_1, .slice A1_2 l1_2.length c1_2]) (t := 40) ?hr ?_; (case hd => rfl); (case hg => rfl); (case hr => first | (go_simp; done) | (go_simp; rfl)); intro gb1 hg w4 hbox hb; (have BK4 := Aside0.mk hbox); (have HB1 := Aside0.mk (below_step HB.out hb)); clear hbox hb hg HB; have HB := HB1; clear HB1) | ((with_reducible refine gate_dst (N := 9) rfl ?_); refine box_event ?hg (N := 9) ?hd (cs := facCells 0 0 0 0 0 0) (t := 117) ?hr ?_; (case hd => rfl); (case hg => rfl); (case hr => first | (go_simp; done) | (go_simp; rfl)); intro bf hg w7 hbox hb; (have BF := Aside0.mk hbox); (have BK41 := Aside0.mk (blk_below BK4.out hb)); (have HB1 := Aside0.mk (below_step HB.out hb)); clear hbox hb hg HB BK4; have HB := HB1; have BK4 := BK41; clear HB1 BK41))
  have BF1 := Aside0.mk (blk_drew BF.out)
  have BK41 := Aside0.mk (blk_drew BK4.out)
  have HB1 := Aside0.mk (below_drew1 HB.out)
  clear BF BK4 HB
  have BF := BF1
  have BK4 := BK41
  have HB := HB1
  clear BF1 BK41 HB1
  refine start_ (n := 14) (S := fun w' => w'.cell? ⟨gb1, 0, none⟩ = some (.int .u64 a1_0) ∧ w'.cell? ⟨gb1, 1, none⟩ = some (.int .u64 a1_1) ∧ w'.cell? ⟨gb1, 2, none⟩ = some (.slice A1_2 l1_2.length c1_2)) (ds := []) #[false, false, false, false, false, false, false, false, false, false, false, false, false, false] (by kernel_rfl) rfl rfl (⟨(blk_cell BK4.out 0).trans rfl, (blk_cell BK4.out 1).trans rfl, (blk_cell BK4.out 2).trans rfl⟩) (fun hHeld => ?_)
  refine with_tabW impl_NewRange.tab2 impl_NewRange.bits2 (fun HT_ HW_ => ?_)
  generalize w7.drew = w8 at BF BK4 HB hHeld ⊢
  refine pure_ (i := 0) (N := (some 11)) (v := ?_) (a' := ?_) #[true, false, false, false, false, false, false, false, false, false, false, false, false, false] rfl rfl (any_of HT_.out (by kernel_rfl)) (fun _ _ _ h => h) (Or.inl ⟨by rfl, ?_⟩) ?_ ?_
  rotate_left
  · intro w'
    go_simp
    with_reducible rfl
  rotate_left
  · simp only [Act.put, List.setIfInBounds_toArray, List.set_cons_zero, List.set_cons_succ, i64_w, i32_w]
    rfl
  refine pure_ (i := 1) (N := (some 12)) (v := ?_) (a' := ?_) #[true, true, false, false, false, false, false, false, false, false, false, false, false, false] rfl rfl (any_of HT_.out (by kernel_rfl)) (fun _ _ _ h => h) (Or.inl ⟨by rfl, ?_⟩) ?_ ?_
  rotate_left
  · intro w'
    go_simp
    with_reducible rfl
  rotate_left
  · simp only [Act.put, List.setIfInBounds_toArray, List.set_cons_zero, List.set_cons_succ, i64_w, i32_w]
    rfl
  refine take_ (i := 2) (N := (some 13)) (v := ?_) (a' := ?_) #[true, true, true, false, false, false, false, false, false, false, false, false, false, false] rfl rfl (take_ofW HT_.out HW_.out (by kernel_rfl)) (fun _ _ _ h => h) (Or.inl ⟨by rfl, ?_⟩) hHeld ?_ ?_
  rotate_left
  · rintro w' ⟨s0, s1, s2⟩
    go_simp
    with_reducible rfl
  rotate_left
  · simp only [Act.put, List.setIfInBounds_toArray, List.set_cons_zero, List.set_cons_succ, i64_w, i32_w]
    rfl
  refine pure_ (i := 3) (N := (some 14)) (v := ?_) (a' := ?_) #[true, true, true, true, false, false, false, false, false, false, false, false, false, false] rfl rfl (any_of HT_.out (by kernel_rfl)) (fun _ _ _ h => h) (Or.inl ⟨by rfl, ?_⟩) ?_ ?_
  rotate_left
  · intro w'
    go_simp
    with_reducible rfl
  rotate_left
  · simp only [Act.put, List.setIfInBounds_toArray, List.set_cons_zero, List.set_cons_succ, i64_w, i32_w]
    rfl
  refine take_ (i := 4) (N := (some 15)) (v := ?_) (a' := ?_) #[true, true, true, true, true, false, false, false, false, false, false, false, false, false] rfl rfl (take_ofW HT_.out HW_.out (by kernel_rfl)) (fun _ _ _ h => h) (Or.inl ⟨by rfl, ?_⟩) hHeld ?_ ?_
  rotate_left
  · rintro w' ⟨s0, s1, s2⟩
    go_simp
    with_reducible rfl
  rotate_left
  · simp only [Act.put, List.setIfInBounds_toArray, List.set_cons_zero, List.set_cons_succ, i64_w, i32_w]
    rfl
  refine pure_ (i := 5) (N := (some 16)) (v := ?_) (a' := ?_) #[true, true, true, true, true, true, false, false, false, false, false, false, false, false] rfl rfl (any_of HT_.out (by kernel_rfl)) (fun _ _ _ h => h) (Or.inl ⟨by rfl, ?_⟩) ?_ ?_
  rotate_left
  · intro w'
    go_simp
    with_reducible rfl
  rotate_left
  · simp only [Act.put, List.setIfInBounds_toArray, List.set_cons_zero, List.set_cons_succ, i64_w, i32_w]
    rfl
  refine take_ (i := 6) (N := (some 17)) (v := ?_) (a' := ?_) #[true, true, true, true, true, true, true, false, false, false, false, false, false, false] rfl rfl (take_ofW HT_.out HW_.out (by kernel_rfl)) (fun _ _ _ h => h) (Or.inl ⟨by rfl, ?_⟩) hHeld ?_ ?_
  rotate_left
  · rintro w' ⟨s0, s1, s2⟩
    go_simp
    with_reducible rfl
  rotate_left
  · simp only [Act.put, List.setIfInBounds_toArray, List.set_cons_zero, List.set_cons_succ, i64_w, i32_w]
    rfl
  refine one_ (i := 7) (N := (some 18)) #[true, true, true, true, true, true, true, true, false, false, false, false, false, false] rfl rfl (one_of HT_.out (by kernel_rfl)) (by decide) (fun K hK => ?_)
  refine goes_ Tryd.func70 (by kernel_rfl) rfl #[.slice A1_2 l1_2.length c1_2] (by rfl) rfl rfl (by (try simp only [List.map_toArray, List.map_cons, List.map_nil]); first | done | rfl) ?_
  with_reducible refine (impl_texts.calls k A1_2 c1_2 l1_2 t _ ?side1 hc1_2 A1.out).mono ?_
  case side1 => exact Kd.C_below HR1.out HB.out
  rintro e6 w9 ⟨v9, rfl, ho, hb⟩
  refine ⟨_, rfl, ?_⟩
  obtain ⟨A9, c9, rfl⟩ := Kd.S_slice ho
  have HO9 := Aside0.mk ho
  have Z8 := Aside0.mk (And.intro HB.out.size (And.intro (blk_lt BF.out) hb.size))
  have BF1 := Aside0.mk (blk_below BF.out hb)
  have BK41 := Aside0.mk (blk_below BK4.out hb)
  have HB1 := Aside0.mk (below_step HB.out hb)
  clear BF BK4 HB hb ho
  have BF := BF1
  have BK4 := BK41
  have HB := HB1
  clear BF1 BK41 HB1
  refine hK.out _ _ ⟨(blk_cell BK4.out 0).trans rfl, (blk_cell BK4.out 1).trans rfl, (blk_cell BK4.out 2).trans rfl⟩ (fun hHeld => ?_)
  clear hK K
  refine norm_ (a' := ?_) ?_ ?_
  rotate_left
  · show Act.put _ (some 18) _ = _
    simp only [Act.put, List.setIfInBounds_toArray, List.set_cons_zero, List.set_cons_succ, i64_w, i32_w]
    rfl
  refine one_ (i := 8) (N := (some 19)) #[true, true, true, true, true, true, true, true, true, false, false, false, false, false] rfl rfl (one_of HT_.out (by kernel_rfl)) (by decide) (fun K hK => ?_)
  refine goes_ Tryd.func69 (by kernel_rfl) rfl #[.pointer (some ⟨bf, 0, none⟩), .int .u64 a1_0, .int .u64 a1_1, .slice A9 t.length c9] (by rfl) rfl rfl (by (try simp only [List.map_toArray, List.map_cons, List.map_nil]); first | done | rfl) ?_
  with_reducible refine (compact_RangeFactory_NewRange.calls ⟨bf, 0, none⟩ a1_0 a1_1 sz A9 t.length c9 HBE.out.1 A2_.out HBE.out.2 _).mono ?_
  rintro e6 w10 ⟨br, rfl, hbr, hge, hb⟩
  refine ⟨_, rfl, ?_⟩
  have Z9 := Aside0.mk (And.intro hge hb.size)
  have BR := Aside0.mk hbr
  have HO91 := Aside0.mk (Kd.S_below HO9.out hb)
  have BF1 := Aside0.mk (blk_below BF.out hb)
  have BK41 := Aside0.mk (blk_below BK4.out hb)
  have HB1 := Aside0.mk (below_step HB.out hb)
  clear BF BK4 HB hb hbr hge HO9
  have BF := BF1
  have BK4 := BK41
  have HB := HB1
  have HO9 := HO91
  clear BF1 BK41 HB1 HO91
  refine hK.out _ _ ⟨(blk_cell BK4.out 0).trans rfl, (blk_cell BK4.out 1).trans rfl, (blk_cell BK4.out 2).trans rfl⟩ (fun hHeld => ?_)
  clear hK K
  refine norm_ (a' := ?_) ?_ ?_
  rotate_left
  · show Act.put _ (some 19) _ = _
    simp only [Act.put, List.setIfInBounds_toArray, List.set_cons_zero, List.set_cons_succ, i64_w, i32_w]
    rfl
  refine pure_ (i := 9) (N := (some 10)) (v := ?_) (a' := ?_) #[true, true, true, true, true, true, true, true, true, true, false, false, false, false] rfl rfl (any_of HT_.out (by kernel_rfl)) (fun _ _ _ h => h) (Or.inl ⟨by rfl, ?_⟩) ?_ ?_
  rotate_left
  · intro w'
    go_simp
    with_reducible rfl
  rotate_left
  · simp only [Act.put, List.setIfInBounds_toArray, List.set_cons_zero, List.set_cons_succ, i64_w, i32_w]
    rfl
  refine pure_ (i := 10) (N := (some 20)) (v := ?_) (a' := ?_) #[true, true, true, true, true, true, true, true, true, true, true, false, false, false] rfl rfl (any_of HT_.out (by kernel_rfl)) (fun _ _ _ h => h) (Or.inl ⟨by rfl, ?_⟩) ?_ ?_
  rotate_left
  · intro w'
    go_simp
    with_reducible rfl
  rotate_left
  · simp only [Act.put, List.setIfInBounds_toArray, List.set_cons_zero, List.set_cons_succ, i64_w, i32_w]
    rfl
  refine pure_ (i := 11) (N := (some 21)) (v := ?_) (a' := ?_) #[true, true, true, true, true, true, true, true, true, true, true, true, false, false] rfl rfl (any_of HT_.out (by kernel_rfl)) (fun _ _ _ h => h) (Or.inl ⟨by rfl, ?_⟩) ?_ ?_
  rotate_left
  · intro w'
    go_simp
    with_reducible rfl
  rotate_left
  · simp only [Act.put, List.setIfInBounds_toArray, List.set_cons_zero, List.set_cons_succ, i64_w, i32_w]
    rfl
  refine pure_ (i := 12) (N := (some 4)) (v := ?_) (a' := ?_) #[true, true, true, true, true, true, true, true, true, true, true, true, true, false] rfl rfl (any_of HT_.out (by kernel_rfl)) (fun _ _ _ h => h) (Or.inl ⟨by rfl, ?_⟩) ?_ ?_
  rotate_left
  · intro w'
    go_simp
    with_reducible rfl
  rotate_left
  · simp only [Act.put, List.setIfInBounds_toArray, List.set_cons_zero, List.set_cons_succ, i64_w, i32_w]
    rfl
  refine pure_ (i := 13) (N := (some 5)) (v := ?_) (a' := ?_) #[true, true, true, true, true, true, true, true, true, true, true, true, true, true] rfl rfl (any_of HT_.out (by kernel_rfl)) (fun _ _ _ h => h) (Or.inl ⟨by rfl, ?_⟩) ?_ ?_
  rotate_left
  · intro w'
    go_simp
    with_reducible rfl
  rotate_left
  · simp only [Act.put, List.setIfInBounds_toArray, List.set_cons_zero, List.set_cons_succ, i64_w, i32_w]
    rfl
  refine done_ (done_of HT_.out (by kernel_rfl)) ?_
  clear hHeld BK4
  go_wp2
  go_ret
  exact ⟨by first | rfl | (go_simp; done) | (go_simp; rfl), HB.out⟩
end Go.Proofs.YtijldedhcjkhiaaDoor.T
