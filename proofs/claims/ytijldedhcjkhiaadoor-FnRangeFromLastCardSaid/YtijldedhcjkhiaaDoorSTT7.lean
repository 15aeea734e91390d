import Derived.Test.YtijldedhcjkhiaaDoorSTT0
import Derived.Test.YtijldedhcjkhiaaDoorSTT3
import Derived.Test.YtijldedhcjkhiaaDoorSTT5
import Derived.Test.YtijldedhcjkhiaaDoorSTT6
namespace Go.Proofs.YtijldedhcjkhiaaDoor.T
open Go.RowKit Go.Proofs.YtijldedhcjkhiaaDoorW.PrintWords Go.Proofs.YtijldedhcjkhiaaDoorW.PrintLast Go.Proofs.YtijldedhcjkhiaaDoorW.PrintMore
attribute [local go_sem] max2_int min2_int max_two min_two max_three min_three max_four min_four   -- for this text's walks alone
set_option linter.unusedVariables false
set_option linter.unusedSimpArgs false
def impl_RootHash.f (k : Nat) (h0 h1 h2 h3 h4 h5 : Int) (b e : Int) (l1 : List (List Int)) : Option (List Int × List S88 × Bool) :=
  (impl_texts.f k l1).bind fun t => (compact_RangeSize.f b e).bind fun sz => if b ≤ e ∧ 0 ≤ b ∧ e < 18446744073709551616 ∧ t.length ≤ 100000 ∧ (t.length : Int) = sz then (if b = 0 then (if t.length = 0 then some ([], [], true) else (rroot k h0 h1 h2 h3 h4 h5 t (t.length - 1) (t.getD (t.length - 1) []) e.toNat []).bind fun r => if r.1.length < 140737488355328 then some (r.1, r.2, true) else none) else some ([], [], false)) else none
theorem impl_RootHash.mono (h0 h1 h2 h3 h4 h5 b e : Int) (l1 : List (List Int)) : ∀ k, LeO (impl_RootHash.f k h0 h1 h2 h3 h4 h5 b e l1) (impl_RootHash.f (k + 1) h0 h1 h2 h3 h4 h5 b e l1) := by
  intro k
  unfold impl_RootHash.f
  refine LeO.bind (impl_texts.mono _ _) fun t => LeO.bind (LeO.refl _) fun sz => LeO.ite (LeO.ite (LeO.ite (LeO.refl _) (LeO.bind (rroot_mono _ _ _ _ _ _ _ _ _ _ _ _) fun r => LeO.refl _)) (LeO.refl _)) (LeO.none _)
def impl_RootHash.T2 : Bool × List (List Nat × List Nat) := (true, [([], []), ([], []), ([1], [1]), ([], []), ([3], [3]), ([], []), ([5], [5]), ([6], [6]), ([0, 2, 4, 7, 7], [0, 2, 4, 7]), ([8], [8]), ([9], [9]), ([9], [9]), ([10, 8, 0, 1, 2, 3, 4, 5, 6, 7, 8, 9, 10], [10]), ([11, 12, 0, 1, 2, 3, 4, 5, 6, 7, 8, 9, 10, 11, 12], [11])])
def impl_RootHash.B2 : List Nat := [0, 0, 2, 0, 8, 0, 32, 96, 255, 511, 1023, 1023, 2047, 8191]
theorem impl_RootHash.tab2 : rtab .any (opsOf Tryd.f23 2) = impl_RootHash.T2 := by kernel_rfl
theorem impl_RootHash.bits2 : waitsOk impl_RootHash.T2.2 impl_RootHash.B2 = true := by kernel_rfl
def impl_RootHash.T9 : Bool × List (List Nat × List Nat) := (true, [([], []), ([0], [0]), ([], []), ([1, 1, 0, 1], [1]), ([2, 3, 0, 1, 2, 3], [2]), ([4, 0, 1, 2, 3, 4], [])])
def impl_RootHash.B9 : List Nat := [0, 1, 0, 3, 15, 31]
theorem impl_RootHash.tab9 : rtab .any (opsOf Tryd.f23 9) = impl_RootHash.T9 := by kernel_rfl
theorem impl_RootHash.bits9 : waitsOk impl_RootHash.T9.2 impl_RootHash.B9 = true := by kernel_rfl
set_option maxHeartbeats 8000000 in
set_option maxRecDepth 100000 in
theorem impl_RootHash.calls (k : Nat) (a0_0 : Int) (a0_1 : Int) (a0_2 : Int) (a0_3 : Int) (a0_4 : Int) (a0_5 : Int) (a1_0 : Int) (a1_1 : Int) (A1_2 : Option Addr) (c1_2 : Nat) (l1_2 : List (List Int)) (r1 : List Int) (r2 : List S88) (r3 : Bool) (w : World) (hGT : GlobT w) (hr1_2 : Kd.C (Kd.slice 5 (Kd.int .u8)) w A1_2 l1_2.length l1_2) (hc1_2 : l1_2.length ≤ c1_2) (h : impl_RootHash.f k a0_0 a0_1 a0_2 a0_3 a0_4 a0_5 a1_0 a1_1 l1_2 = some (r1, r2, r3)) :
    Calls Tryd.prog 23 #[.agg #[.int .i64 a0_0, .int .i64 a0_1, .int .i64 a0_2, .int .u64 a0_3, .int .u64 a0_4, .int .u64 a0_5], .agg #[.int .u64 a1_0, .int .u64 a1_1, .slice A1_2 l1_2.length c1_2]] w fun e w' => ∃ v0_ v1_ : Value, e = .returned (.tuple #[v0_, v1_, .bool r3]) ∧ Kd.R (Kd.int .u8) 5 w' w.heap.size (fun _ => True) v0_ r1 ∧ Kd.S k88 88 w' w.heap.size (fun _ => True) v1_ r2 ∧ Below w.heap.size w w' := by
  have hu37 := Tryd.underlying37
  have hu40 := Tryd.underlying40
  have hu117 := Tryd.underlying117
  have hu120 := Tryd.underlying120
  have hu38 := Tryd.underlying38
  have HR1 := Aside0.mk hr1_2
  have HB := Aside0.mk (Below.refl w.heap.size w)
  clear hr1_2
  unfold impl_RootHash.f at h
  replace h := Option.bind_eq_some_iff.mp h
  obtain ⟨t, hA1, H⟩ := h
  replace H := Option.bind_eq_some_iff.mp H
  obtain ⟨sz, hA2, H⟩ := H
  by_cases hsz : a1_0 ≤ a1_1 ∧ 0 ≤ a1_0 ∧ a1_1 < 18446744073709551616 ∧ t.length ≤ 100000 ∧ (t.length : Int) = sz
  case neg => rw [if_neg hsz] at H; cases H
  rw [if_pos hsz] at H
  have A1 := Aside0.mk hA1
  have A2_ := Aside0.mk hA2
  have HBE := Aside0.mk (And.intro hsz.1 hsz.2.2.2.2)
  have HSZ := Aside0.mk hsz
  have HH := Aside0.mk H
  clear hA1 hA2 hsz H
  go_enter Tryd.func23, Tryd.ntmps23
  go_wp2_with (first | ((with_reducible refine gate_dst (N := 2) rfl ?_); refine box_event ?hg (N := 2) ?hd (cs := #[.int .i64 a0_0, .int .i64 a0_1, .int .i64 a0_2, .int .u64 a0_3, .int .u64 a0_4, .int .u64 a0_5]) (t := 37) ?hr ?_; (case hd => rfl); (case hg => rfl); (case hr => first | (go_simp; done) | (go_simp; rfl)); intro gb2 hg w3 hbox hb; (have BK3 := Aside0.mk hbox); (have HB1 := Aside0.mk (below_step HB.out hb)); clear hbox hb hg HB; have HB := HB1; clear HB1) | ((with_reducible refine gate_dst (N := 3) rfl ?_); refine box_event ?hg (N := 3) ?hd (cs := #[.int .u64 a1_0, .int .u64 a1_1, .slice A1_2 l1_2.length c1_2]) (t := 40) ?hr ?_; (case hd => rfl); (case hg => rfl); (case hr => first | (go_simp; done) | (go_simp; rfl)); intro gb3 hg w4 hbox hb; (have BK4 := Aside0.mk hbox); (have BK31 := Aside0.mk (blk_below BK3.out hb)); (have HB1 := Aside0.mk (below_step HB.out hb)); clear hbox hb hg HB BK3; have HB := HB1; have BK3 := BK31; clear HB1 BK31; have hc3_0 := (blk_cell BK3.out 0).trans rfl; have hc3_1 := (blk_cell BK3.out 1).trans rfl; have hc3_2 := (blk_cell BK3.out 2).trans rfl; have hc3_3 := (blk_cell BK3.out 3).trans rfl; have hc3_4 := (blk_cell BK3.out 4).trans rfl; have hc3_5 := (blk_cell BK3.out 5).trans rfl) | ((with_reducible refine gate_dst (N := 16) rfl ?_); refine box_event ?hg (N := 16) ?hd (cs := facCells a0_0 a0_1 a0_2 a0_3 a0_4 a0_5) (t := 117) ?hr ?_; (case hd => rfl); (case hg => rfl); (case hr => first | (go_simp; done) | (go_simp; rfl)); intro bf hg w7 hbox hb; clear hc3_0 hc3_1 hc3_2 hc3_3 hc3_4 hc3_5; (have BF := Aside0.mk hbox); (have BK41 := Aside0.mk (blk_below BK4.out hb)); (have HB1 := Aside0.mk (below_step HB.out hb)); (have GF := Aside0.mk (show w.heap.size ≤ bf by rw [hg]; exact HB.out.size)); clear hbox hb hg HB BK3 BK4; have HB := HB1; have BK4 := BK41; clear HB1 BK41))
  have BF1 := Aside0.mk (blk_drew BF.out)
  have BK41 := Aside0.mk (blk_drew BK4.out)
  have HB1 := Aside0.mk (below_drew1 HB.out)
  clear BF BK4 HB
  have BF := BF1
  have BK4 := BK41
  have HB := HB1
  clear BF1 BK41 HB1
  refine start_ (n := 14) (S := fun w' => w'.cell? ⟨gb3, 0, none⟩ = some (.int .u64 a1_0) ∧ w'.cell? ⟨gb3, 1, none⟩ = some (.int .u64 a1_1) ∧ w'.cell? ⟨gb3, 2, none⟩ = some (.slice A1_2 l1_2.length c1_2)) (ds := []) #[false, false, false, false, false, false, false, false, false, false, false, false, false, false] (by kernel_rfl) rfl rfl (⟨(blk_cell BK4.out 0).trans rfl, (blk_cell BK4.out 1).trans rfl, (blk_cell BK4.out 2).trans rfl⟩) (fun hHeld => ?_)
  refine with_tabW impl_RootHash.tab2 impl_RootHash.bits2 (fun HT_ HW_ => ?_)
  generalize w7.drew = w8 at BF BK4 HB hHeld ⊢
  refine pure_ (i := 0) (N := (some 18)) (v := ?_) (a' := ?_) #[true, false, false, false, false, false, false, false, false, false, false, false, false, false] rfl rfl (any_of HT_.out (by kernel_rfl)) (fun _ _ _ h => h) (Or.inl ⟨by rfl, ?_⟩) ?_ ?_
  rotate_left
  · intro w'
    go_simp
    with_reducible rfl
  rotate_left
  · simp only [Act.put, List.setIfInBounds_toArray, List.set_cons_zero, List.set_cons_succ, i64_w, i32_w]
    rfl
  refine pure_ (i := 1) (N := (some 19)) (v := ?_) (a' := ?_) #[true, true, false, false, false, false, false, false, false, false, false, false, false, false] rfl rfl (any_of HT_.out (by kernel_rfl)) (fun _ _ _ h => h) (Or.inl ⟨by rfl, ?_⟩) ?_ ?_
  rotate_left
  · intro w'
    go_simp
    with_reducible rfl
  rotate_left
  · simp only [Act.put, List.setIfInBounds_toArray, List.set_cons_zero, List.set_cons_succ, i64_w, i32_w]
    rfl
  refine take_ (i := 2) (N := (some 20)) (v := ?_) (a' := ?_) #[true, true, true, false, false, false, false, false, false, false, false, false, false, false] rfl rfl (take_ofW HT_.out HW_.out (by kernel_rfl)) (fun _ _ _ h => h) (Or.inl ⟨by rfl, ?_⟩) hHeld ?_ ?_
  rotate_left
  · rintro w' ⟨s0, s1, s2⟩
    go_simp
    with_reducible rfl
  rotate_left
  · simp only [Act.put, List.setIfInBounds_toArray, List.set_cons_zero, List.set_cons_succ, i64_w, i32_w]
    rfl
  refine pure_ (i := 3) (N := (some 21)) (v := ?_) (a' := ?_) #[true, true, true, true, false, false, false, false, false, false, false, false, false, false] rfl rfl (any_of HT_.out (by kernel_rfl)) (fun _ _ _ h => h) (Or.inl ⟨by rfl, ?_⟩) ?_ ?_
  rotate_left
  · intro w'
    go_simp
    with_reducible rfl
  rotate_left
  · simp only [Act.put, List.setIfInBounds_toArray, List.set_cons_zero, List.set_cons_succ, i64_w, i32_w]
    rfl
  refine take_ (i := 4) (N := (some 22)) (v := ?_) (a' := ?_) #[true, true, true, true, true, false, false, false, false, false, false, false, false, false] rfl rfl (take_ofW HT_.out HW_.out (by kernel_rfl)) (fun _ _ _ h => h) (Or.inl ⟨by rfl, ?_⟩) hHeld ?_ ?_
  rotate_left
  · rintro w' ⟨s0, s1, s2⟩
    go_simp
    with_reducible rfl
  rotate_left
  · simp only [Act.put, List.setIfInBounds_toArray, List.set_cons_zero, List.set_cons_succ, i64_w, i32_w]
    rfl
  refine pure_ (i := 5) (N := (some 23)) (v := ?_) (a' := ?_) #[true, true, true, true, true, true, false, false, false, false, false, false, false, false] rfl rfl (any_of HT_.out (by kernel_rfl)) (fun _ _ _ h => h) (Or.inl ⟨by rfl, ?_⟩) ?_ ?_
  rotate_left
  · intro w'
    go_simp
    with_reducible rfl
  rotate_left
  · simp only [Act.put, List.setIfInBounds_toArray, List.set_cons_zero, List.set_cons_succ, i64_w, i32_w]
    rfl
  refine take_ (i := 6) (N := (some 24)) (v := ?_) (a' := ?_) #[true, true, true, true, true, true, true, false, false, false, false, false, false, false] rfl rfl (take_ofW HT_.out HW_.out (by kernel_rfl)) (fun _ _ _ h => h) (Or.inl ⟨by rfl, ?_⟩) hHeld ?_ ?_
  rotate_left
  · rintro w' ⟨s0, s1, s2⟩
    go_simp
    with_reducible rfl
  rotate_left
  · simp only [Act.put, List.setIfInBounds_toArray, List.set_cons_zero, List.set_cons_succ, i64_w, i32_w]
    rfl
  refine one_ (i := 7) (N := (some 25)) #[true, true, true, true, true, true, true, true, false, false, false, false, false, false] rfl rfl (one_of HT_.out (by kernel_rfl)) (by decide) (fun K hK => ?_)
  refine goes_ Tryd.func70 (by kernel_rfl) rfl #[.slice A1_2 l1_2.length c1_2] (by rfl) rfl rfl (by (try simp only [List.map_toArray, List.map_cons, List.map_nil]); first | done | rfl) ?_
  with_reducible refine (impl_texts.calls k A1_2 c1_2 l1_2 t _ ?side1 hc1_2 A1.out).mono ?_
  case side1 => exact Kd.C_below HR1.out HB.out
  rintro e6 w9 ⟨v9, rfl, ho, hb⟩
  refine ⟨_, rfl, ?_⟩
  obtain ⟨A9, c9, rfl⟩ := Kd.S_slice ho
  have HO9 := Aside0.mk ho
  have Z8 := Aside0.mk (And.intro HB.out.size (And.intro (blk_lt BF.out) hb.size))
  have BF1 := Aside0.mk (blk_below BF.out hb)
  have BK41 := Aside0.mk (blk_below BK4.out hb)
  have HB1 := Aside0.mk (below_step HB.out hb)
  clear BF BK4 HB hb ho
  have BF := BF1
  have BK4 := BK41
  have HB := HB1
  clear BF1 BK41 HB1
  refine hK.out _ _ ⟨(blk_cell BK4.out 0).trans rfl, (blk_cell BK4.out 1).trans rfl, (blk_cell BK4.out 2).trans rfl⟩ (fun hHeld => ?_)
  clear hK K
  refine norm_ (a' := ?_) ?_ ?_
  rotate_left
  · show Act.put _ (some 25) _ = _
    simp only [Act.put, List.setIfInBounds_toArray, List.set_cons_zero, List.set_cons_succ, i64_w, i32_w]
    rfl
  refine one_ (i := 8) (N := (some 26)) #[true, true, true, true, true, true, true, true, true, false, false, false, false, false] rfl rfl (one_of HT_.out (by kernel_rfl)) (by decide) (fun K hK => ?_)
  refine goes_ Tryd.func69 (by kernel_rfl) rfl #[.pointer (some ⟨bf, 0, none⟩), .int .u64 a1_0, .int .u64 a1_1, .slice A9 t.length c9] (by rfl) rfl rfl (by (try simp only [List.map_toArray, List.map_cons, List.map_nil]); first | done | rfl) ?_
  with_reducible refine (compact_RangeFactory_NewRange.calls ⟨bf, 0, none⟩ a1_0 a1_1 sz A9 t.length c9 HBE.out.1 A2_.out HBE.out.2 _).mono ?_
  rintro e6 w10 ⟨br, rfl, hbr, hge, hb⟩
  refine ⟨_, rfl, ?_⟩
  have Z9 := Aside0.mk (And.intro hge hb.size)
  have BR := Aside0.mk hbr
  have HO91 := Aside0.mk (Kd.S_below HO9.out hb)
  have BF1 := Aside0.mk (blk_below BF.out hb)
  have BK41 := Aside0.mk (blk_below BK4.out hb)
  have HB1 := Aside0.mk (below_step HB.out hb)
  clear BF BK4 HB hb hbr hge HO9
  have BF := BF1
  have BK4 := BK41
  have HB := HB1
  have HO9 := HO91
  clear BF1 BK41 HB1 HO91
  refine hK.out _ _ ⟨(blk_cell BK4.out 0).trans rfl, (blk_cell BK4.out 1).trans rfl, (blk_cell BK4.out 2).trans rfl⟩ (fun hHeld => ?_)
  clear hK K
  refine norm_ (a' := ?_) ?_ ?_
  rotate_left
  · show Act.put _ (some 26) _ = _
    simp only [Act.put, List.setIfInBounds_toArray, List.set_cons_zero, List.set_cons_succ, i64_w, i32_w]
    rfl
  refine pure_ (i := 9) (N := (some 17)) (v := ?_) (a' := ?_) #[true, true, true, true, true, true, true, true, true, true, false, false, false, false] rfl rfl (any_of HT_.out (by kernel_rfl)) (fun _ _ _ h => h) (Or.inl ⟨by rfl, ?_⟩) ?_ ?_
  rotate_left
  · intro w'
    go_simp
    with_reducible rfl
  rotate_left
  · simp only [Act.put, List.setIfInBounds_toArray, List.set_cons_zero, List.set_cons_succ, i64_w, i32_w]
    rfl
  refine pure_ (i := 10) (N := (some 27)) (v := ?_) (a' := ?_) #[true, true, true, true, true, true, true, true, true, true, true, false, false, false] rfl rfl (any_of HT_.out (by kernel_rfl)) (fun _ _ _ h => h) (Or.inl ⟨by rfl, ?_⟩) ?_ ?_
  rotate_left
  · intro w'
    go_simp
    with_reducible rfl
  rotate_left
  · simp only [Act.put, List.setIfInBounds_toArray, List.set_cons_zero, List.set_cons_succ, i64_w, i32_w]
    rfl
  refine pure_ (i := 11) (N := (some 28)) (v := ?_) (a' := ?_) #[true, true, true, true, true, true, true, true, true, true, true, true, false, false] rfl rfl (any_of HT_.out (by kernel_rfl)) (fun _ _ _ h => h) (Or.inl ⟨by rfl, ?_⟩) ?_ ?_
  rotate_left
  · intro w'
    go_simp
    with_reducible rfl
  rotate_left
  · simp only [Act.put, List.setIfInBounds_toArray, List.set_cons_zero, List.set_cons_succ, i64_w, i32_w]
    rfl
  refine pure_ (i := 12) (N := (some 8)) (v := ?_) (a' := ?_) #[true, true, true, true, true, true, true, true, true, true, true, true, true, false] rfl rfl (any_of HT_.out (by kernel_rfl)) (fun _ _ _ h => h) (Or.inl ⟨by rfl, ?_⟩) ?_ ?_
  rotate_left
  · intro w'
    go_simp
    with_reducible rfl
  rotate_left
  · simp only [Act.put, List.setIfInBounds_toArray, List.set_cons_zero, List.set_cons_succ, i64_w, i32_w]
    rfl
  refine pure_ (i := 13) (N := (some 9)) (v := ?_) (a' := ?_) #[true, true, true, true, true, true, true, true, true, true, true, true, true, true] rfl rfl (any_of HT_.out (by kernel_rfl)) (fun _ _ _ h => h) (Or.inl ⟨by rfl, ?_⟩) ?_ ?_
  rotate_left
  · intro w'
    go_simp
    with_reducible rfl
  rotate_left
  · simp only [Act.put, List.setIfInBounds_toArray, List.set_cons_zero, List.set_cons_succ, i64_w, i32_w]
    rfl
  refine done_ (done_of HT_.out (by kernel_rfl)) ?_
  clear hHeld BK4
  go_wp2_with (first | ((with_reducible refine gate_dst (N := 10) rfl ?_); refine box_event ?hg (N := 10) ?hd (cs := #[.slice none 0 0]) (t := 43) ?hr ?_; (case hd => rfl); (case hg => rfl); (case hr => first | (go_simp; done) | (go_simp; rfl)); intro s hg w11 hbox hb; (have BS := Aside0.mk hbox); (have BF1 := Aside0.mk (blk_below BF.out hb)); (have BR1 := Aside0.mk (blk_below BR.out hb)); (have HB1 := Aside0.mk (below_step HB.out hb)); (have Z11 := Aside0.mk (And.intro hg (And.intro (blk_lt BR.out) (And.intro (blk_lt BF.out) HB.out.size)))); (have HO91 := Aside0.mk (Kd.S_below HO9.out hb)); clear hbox hb hg HB BF BR HO9; have HB := HB1; have BF := BF1; have BR := BR1; have HO9 := HO91; clear HB1 BF1 BR1 HO91))
  have hgr : GlobT w11 := hGT.below HB.out
  have hv72 := impl_RootHash_1.ok
  by_cases hb0 : a1_0 = 0
  · subst hb0
    have H := HH.out
    rw [if_pos rfl] at H
    rcases Nat.eq_zero_or_pos t.length with ht0 | htp
    · rw [if_pos ht0] at H
      simp only [Option.some.injEq, Prod.mk.injEq] at H
      obtain ⟨rfl, rfl, rfl⟩ := H
      have BR0 : w11.heap[br]? = some (.cells (rngCells bf 0 a1_1 (.slice A9 0 c9)) 167 (0, 0)) := by have h := BR.out; rw [ht0] at h; exact h
      refine (compact_Range_GetRootHash.calls0 bf br 72 s a1_1 A9 c9 w11 BR0).mono ?_
      rintro e6 w12 ⟨rfl, hb⟩
      have HS := Aside0.mk (blk_below BS.out hb)
      have HB1 := Aside0.mk (below_step HB.out hb)
      clear hb HB BR0
      have HB := HB1
      clear HB1
      go_wp2
      have HS1 := Aside0.mk (blk_drew HS.out)
      have HB1 := Aside0.mk (below_drew1 HB.out)
      clear HS HB
      have HS := HS1
      have HB := HB1
      clear HS1 HB1
      refine start_ (n := 6) (S := fun w' => w'.cell? ⟨s, 0, none⟩ = some (.slice none 0 0)) (ds := []) #[false, false, false, false, false, false] (by kernel_rfl) rfl rfl ((blk_cell HS.out 0).trans rfl) (fun hHeld => ?_)
      refine with_tabW impl_RootHash.tab9 impl_RootHash.bits9 (fun HT_ HW_ => ?_)
      generalize w12.drew = w13 at HS HB hHeld ⊢
      refine pure_ (i := 0) (N := (some 39)) (v := ?_) (a' := ?_) #[true, false, false, false, false, false] rfl rfl (any_of HT_.out (by kernel_rfl)) (fun _ _ _ h => h) (Or.inl ⟨by rfl, ?_⟩) ?_ ?_
      rotate_left
      · intro w'
        go_simp
        with_reducible rfl
      rotate_left
      · simp only [Act.put, List.setIfInBounds_toArray, List.set_cons_zero, List.set_cons_succ, i64_w, i32_w]
        rfl
      refine take_ (i := 2) (N := (some 41)) (v := ?_) (a' := ?_) #[true, false, true, false, false, false] rfl rfl (take_ofW HT_.out HW_.out (by kernel_rfl)) (fun _ _ _ h => h) (Or.inl ⟨by rfl, ?_⟩) hHeld ?_ ?_
      rotate_left
      · intro w' s0
        go_simp
        with_reducible rfl
      rotate_left
      · simp only [Act.put, List.setIfInBounds_toArray, List.set_cons_zero, List.set_cons_succ, i64_w, i32_w]
        rfl
      refine one_ (i := 1) (N := (some 40)) #[true, true, true, false, false, false] rfl rfl (one_of HT_.out (by kernel_rfl)) (by decide) (fun K hK => ?_)
      refine Kd.R_append_rows_step (Kd.int .u8) (w0 := w) w.heap.size (by rfl) (.const (.slice none 0 0)) (.tmp 39) 42 5 (.int .u8 0) 1 rfl Tryd.underlying42 info5 rfl (by decide) (by omega) (.slice none 0 0) ([] : List Int) [] _ _ _ (fun _ => True) (fun _ => False) rfl rfl (Kd.R_nil _ _ _ _ _) (Kd.F_now (Kd.F_nil _ _ (fun _ => True))) (fun _ _ h => h) (fun _ h => h.elim) (fun _ _ => trivial) HB.out HB.out.size (by simp) ?_
      intro v10 w10 ho hb hg hat
      have HO := Aside0.mk ho
      have HS1 := Aside0.mk (blk_grown HS.out hg (by simp [Value.ownBlock]))
      have HB1 := Aside0.mk hb
      clear ho hb hg hat HS HB
      have HS := HS1
      have HB := HB1
      clear HS1 HB1
      refine hK.out _ _ ((blk_cell HS.out 0).trans rfl) (fun hHeld => ?_)
      clear hK K
      refine norm_ (a' := ?_) ?_ ?_
      rotate_left
      · show Act.put _ (some 40) _ = _
        simp only [Act.put, List.setIfInBounds_toArray, List.set_cons_zero, List.set_cons_succ, i64_w, i32_w]
        rfl
      refine pure_ (i := 3) (N := (some 4)) (v := ?_) (a' := ?_) #[true, true, true, true, false, false] rfl rfl (any_of HT_.out (by kernel_rfl)) (fun _ _ _ h => h) (Or.inl ⟨by rfl, ?_⟩) ?_ ?_
      rotate_left
      · intro w'
        go_simp
        with_reducible rfl
      rotate_left
      · simp only [Act.put, List.setIfInBounds_toArray, List.set_cons_zero, List.set_cons_succ, i64_w, i32_w]
        rfl
      refine pure_ (i := 4) (N := (some 5)) (v := ?_) (a' := ?_) #[true, true, true, true, true, false] rfl rfl (any_of HT_.out (by kernel_rfl)) (fun _ _ _ h => h) (Or.inl ⟨by rfl, ?_⟩) ?_ ?_
      rotate_left
      · intro w'
        go_simp
        with_reducible rfl
      rotate_left
      · simp only [Act.put, List.setIfInBounds_toArray, List.set_cons_zero, List.set_cons_succ, i64_w, i32_w]
        rfl
      refine pure_ (i := 5) (N := (some 6)) (v := ?_) (a' := ?_) #[true, true, true, true, true, true] rfl rfl (any_of HT_.out (by kernel_rfl)) (fun _ _ _ h => h) (Or.inl ⟨by rfl, ?_⟩) ?_ ?_
      rotate_left
      · intro w'
        go_simp
        with_reducible rfl
      rotate_left
      · simp only [Act.put, List.setIfInBounds_toArray, List.set_cons_zero, List.set_cons_succ, i64_w, i32_w]
        rfl
      refine done_ (done_of HT_.out (by kernel_rfl)) ?_
      go_wp2
      refine bodyPost_ret (results_tmp3 rfl _ _ _) rfl ?_
      exact ⟨_, _, rfl, HO.out, Kd.S_nil _ _ _ _ _, HB.out⟩
    · rw [if_neg (by omega)] at H
      obtain ⟨⟨root, L'⟩, hA3, H⟩ := Option.bind_eq_some_iff.mp H
      by_cases hrl : root.length < 140737488355328
      case neg => rw [if_neg hrl] at H; cases H
      rw [if_pos hrl] at H
      simp only [Option.some.injEq, Prod.mk.injEq] at H
      obtain ⟨rfl, rfl, rfl⟩ := H
      obtain ⟨en, hen, HEN⟩ : ∃ en : Nat, a1_1 = (en : Int) ∧ Aside0 (a1_1.toNat = en) := ⟨a1_1.toNat, by have := HSZ.out; omega, ⟨rfl⟩⟩
      rw [HEN.out] at hA3
      have HT := Aside0.mk (Kd.F_mono (ok' := okA br s (.slice none 0 0)) (Kd.S_F (Kd.S_types (Kd.S_types HO9.out BR.out (by decide)) BS.out (by decide))) (fun k hk => ⟨hk.1.2, hk.2, by simp [Value.ownBlock]⟩))
      have HCL := Aside0.mk (Kd.S_reads' HO9.out).2.1
      have hbr0 : w11.heap[br]? = some (.cells (rngCells bf 0 (en : Int) (.slice A9 t.length c9)) 167 (0, 0)) := by rw [← hen]; exact BR.out
      refine (compact_Range_GetRootHash.calls k a0_0 a0_1 a0_2 a0_3 a0_4 a0_5 bf br s en 72 hv72 c9 A9 (t.length - 1) t root (.slice none 0 0) [] L' w11 hgr (by have := HSZ.out; omega) (by omega) HSZ.out.2.2.2.1 (by simp) hA3 BF.out hbr0 HT.out HCL.out ⟨BS.out, Kd.S_nil _ _ _ _ _⟩ (by have := Z11.out; omega) (by have := Z11.out; omega)).mono ?_
      rintro e6 w12 ⟨A12, c12, vs12, rfl, hc12, hC12, hS12, hK12⟩
      have HS := Aside0.mk hS12
      have HRC := Aside0.mk (And.intro hc12 hC12)
      have HB1 := Aside0.mk (HB.out.trans (KeptB.to_below hK12 (B := w.heap.size) (fun k hk => by
        rcases hk with h | h
        · have := Z11.out; have := HB.out.size; omega
        · simp [Value.ownBlock] at h) HB.out.size))
      clear hS12 hc12 hC12 hK12 HB hA3 hbr0
      have HB := HB1
      clear HB1
      go_wp2
      have HS1 := Aside0.mk (Seen.mk (blk_drew HS.out.cell) (Kd.S_drew HS.out.row))
      have HB1 := Aside0.mk (below_drew1 HB.out)
      have HRC1 := Aside0.mk (And.intro HRC.out.1 (Kd.C_drew HRC.out.2))
      clear HS HB HRC
      have HS := HS1
      have HB := HB1
      have HRC := HRC1
      clear HS1 HB1 HRC1
      refine start_ (n := 6) (S := fun w' => w'.cell? ⟨s, 0, none⟩ = some vs12) (ds := []) #[false, false, false, false, false, false] (by kernel_rfl) rfl rfl ((blk_cell HS.out.cell 0).trans rfl) (fun hHeld => ?_)
      refine with_tabW impl_RootHash.tab9 impl_RootHash.bits9 (fun HT_ HW_ => ?_)
      generalize w12.drew = w13 at HS HB HRC hHeld ⊢
      refine pure_ (i := 0) (N := (some 39)) (v := ?_) (a' := ?_) #[true, false, false, false, false, false] rfl rfl (any_of HT_.out (by kernel_rfl)) (fun _ _ _ h => h) (Or.inl ⟨by rfl, ?_⟩) ?_ ?_
      rotate_left
      · intro w'
        go_simp
        with_reducible rfl
      rotate_left
      · simp only [Act.put, List.setIfInBounds_toArray, List.set_cons_zero, List.set_cons_succ, i64_w, i32_w]
        rfl
      refine take_ (i := 2) (N := (some 41)) (v := ?_) (a' := ?_) #[true, false, true, false, false, false] rfl rfl (take_ofW HT_.out HW_.out (by kernel_rfl)) (fun _ _ _ h => h) (Or.inl ⟨by rfl, ?_⟩) hHeld ?_ ?_
      rotate_left
      · intro w' s0
        go_simp
        with_reducible rfl
      rotate_left
      · simp only [Act.put, List.setIfInBounds_toArray, List.set_cons_zero, List.set_cons_succ, i64_w, i32_w]
        rfl
      refine one_ (i := 1) (N := (some 40)) #[true, true, true, false, false, false] rfl rfl (one_of HT_.out (by kernel_rfl)) (by decide) (fun K hK => ?_)
      refine Kd.R_append_rows_step (Kd.int .u8) (w0 := w) w.heap.size (by rfl) (.const (.slice none 0 0)) (.tmp 39) 42 5 (.int .u8 0) 1 rfl Tryd.underlying42 info5 rfl (by decide) (by omega) (.slice none 0 0) ([] : List Int) root _ _ _ (fun _ => True) (fun _ => False) rfl rfl (Kd.R_nil _ _ _ _ _) HRC.out.2 (fun _ _ h => h) (fun _ h => h.elim) (fun _ _ => trivial) HB.out HB.out.size (by simp; omega) ?_
      intro v10 w10 ho hb hg hat
      rw [List.nil_append] at ho
      have HO := Aside0.mk ho
      have HS1 := Aside0.mk (Seen.mk (blk_grown HS.out.cell hg (by simp [Value.ownBlock])) (Kd.S_grown HS.out.row hg (fun _ _ => by simp [Value.ownBlock])))
      have HB1 := Aside0.mk hb
      clear ho hb hg hat HS HB
      have HS := HS1
      have HB := HB1
      clear HS1 HB1
      refine hK.out _ _ ((blk_cell HS.out.cell 0).trans rfl) (fun hHeld => ?_)
      clear hK K
      refine norm_ (a' := ?_) ?_ ?_
      rotate_left
      · show Act.put _ (some 40) _ = _
        simp only [Act.put, List.setIfInBounds_toArray, List.set_cons_zero, List.set_cons_succ, i64_w, i32_w]
        rfl
      refine pure_ (i := 3) (N := (some 4)) (v := ?_) (a' := ?_) #[true, true, true, true, false, false] rfl rfl (any_of HT_.out (by kernel_rfl)) (fun _ _ _ h => h) (Or.inl ⟨by rfl, ?_⟩) ?_ ?_
      rotate_left
      · intro w'
        go_simp
        with_reducible rfl
      rotate_left
      · simp only [Act.put, List.setIfInBounds_toArray, List.set_cons_zero, List.set_cons_succ, i64_w, i32_w]
        rfl
      refine pure_ (i := 4) (N := (some 5)) (v := ?_) (a' := ?_) #[true, true, true, true, true, false] rfl rfl (any_of HT_.out (by kernel_rfl)) (fun _ _ _ h => h) (Or.inl ⟨by rfl, ?_⟩) ?_ ?_
      rotate_left
      · intro w'
        go_simp
        with_reducible rfl
      rotate_left
      · simp only [Act.put, List.setIfInBounds_toArray, List.set_cons_zero, List.set_cons_succ, i64_w, i32_w]
        rfl
      refine pure_ (i := 5) (N := (some 6)) (v := ?_) (a' := ?_) #[true, true, true, true, true, true] rfl rfl (any_of HT_.out (by kernel_rfl)) (fun _ _ _ h => h) (Or.inl ⟨by rfl, ?_⟩) ?_ ?_
      rotate_left
      · intro w'
        go_simp
        with_reducible rfl
      rotate_left
      · simp only [Act.put, List.setIfInBounds_toArray, List.set_cons_zero, List.set_cons_succ, i64_w, i32_w]
        rfl
      refine done_ (done_of HT_.out (by kernel_rfl)) ?_
      go_wp2
      refine bodyPost_ret (results_tmp3 rfl _ _ _) rfl ?_
      exact ⟨_, _, rfl, HO.out, Kd.S_mono (Kd.S_lower HS.out.row (by have := Z11.out; have := HB.out.size; omega)) (fun _ _ => trivial), HB.out⟩
  · have H := HH.out
    rw [if_neg hb0] at H
    simp only [Option.some.injEq, Prod.mk.injEq] at H
    obtain ⟨rfl, rfl, rfl⟩ := H
    refine (compact_Range_GetRootHash.callsE bf br 72 s a1_0 a1_1 _ hb0 w11 BR.out).mono ?_
    rintro e6 w12 ⟨ty, uu, rfl, hb⟩
    have HB1 := Aside0.mk (below_step HB.out hb)
    clear hb HB
    have HB := HB1
    clear HB1
    go_wp2
    refine bodyPost_ret (results_tmp3 rfl _ _ _) rfl ?_
    exact ⟨_, _, rfl, Kd.R_nil _ _ _ _ _, Kd.S_nil _ _ _ _ _, HB.out⟩
set_option maxHeartbeats 8000000 in
theorem compact_Range_Begin.calls (br bf : Nat) (b e : Int) (v : Value) (w : World) (hR : w.heap[br]? = some (.cells (rngCells bf b e v) 167 (0, 0))) :
    Calls Tryd.prog 122 #[.pointer (some ⟨br, 0, none⟩)] w fun e' w' => e' = .returned (.int .u64 b) ∧ Below w.heap.size w w' := by
  have hc1 : w.cell? ⟨br, 1, none⟩ = some (.int .u64 b) := (blk_cell hR 1).trans rfl
  have HB := Aside0.mk (Below.refl w.heap.size w)
  go_enter Tryd.func122, Tryd.ntmps122
  go_wp2
  go_ret
  exact ⟨rfl, (by repeat (first | (with_reducible first | exact HB.out | apply below_alloc | apply pw_below_drewN | apply below_drew1) | exact HB.out))⟩
set_option maxHeartbeats 8000000 in
theorem compact_Range_End.calls (br bf : Nat) (b e : Int) (v : Value) (w : World) (hR : w.heap[br]? = some (.cells (rngCells bf b e v) 167 (0, 0))) :
    Calls Tryd.prog 123 #[.pointer (some ⟨br, 0, none⟩)] w fun e' w' => e' = .returned (.int .u64 e) ∧ Below w.heap.size w w' := by
  have hc1 : w.cell? ⟨br, 2, none⟩ = some (.int .u64 e) := (blk_cell hR 2).trans rfl
  have HB := Aside0.mk (Below.refl w.heap.size w)
  go_enter Tryd.func123, Tryd.ntmps123
  go_wp2
  go_ret
  exact ⟨rfl, (by repeat (first | (with_reducible first | exact HB.out | apply below_alloc | apply pw_below_drewN | apply below_drew1) | exact HB.out))⟩
set_option maxHeartbeats 8000000 in
theorem compact_Range_Hashes.calls (br bf : Nat) (b e : Int) (A : Option Addr) (n c : Nat) (w : World) (hR : w.heap[br]? = some (.cells (rngCells bf b e (.slice A n c)) 167 (0, 0))) :
    Calls Tryd.prog 124 #[.pointer (some ⟨br, 0, none⟩)] w fun e' w' => e' = .returned (.slice A n c) ∧ Below w.heap.size w w' := by
  have hc1 : w.cell? ⟨br, 3, none⟩ = some (.slice A n c) := (blk_cell hR 3).trans rfl
  have HB := Aside0.mk (Below.refl w.heap.size w)
  go_enter Tryd.func124, Tryd.ntmps124
  go_wp2
  go_ret
  exact ⟨rfl, (by repeat (first | (with_reducible first | exact HB.out | apply below_alloc | apply pw_below_drewN | apply below_drew1) | exact HB.out))⟩
set_option maxHeartbeats 8000000 in
set_option maxRecDepth 100000 in
theorem impl_fromRange.calls (k br bf : Nat) (b e : Int) (A : Option Addr) (c : Nat) (T t : List (List Int)) (w : World) (hR : w.heap[br]? = some (.cells (rngCells bf b e (.slice A T.length c)) 167 (0, 0))) (hT : Kd.C (Kd.slice 5 (Kd.int .u8)) w A T.length T) (hc : T.length ≤ c) (ht : impl_texts.f k T = some t) :
    Calls Tryd.prog 91 #[.pointer (some ⟨br, 0, none⟩)] w fun e' w' => ∃ v : Value, e' = .returned (.agg #[.int .u64 b, .int .u64 e, v]) ∧ Kd.S (Kd.slice 5 (Kd.int .u8)) 42 w' w.heap.size (fun _ => True) v t ∧ Below w.heap.size w w' := by
  have hu40 := Tryd.underlying40
  have HR := Aside0.mk hR
  have HT := Aside0.mk hT
  have HTX := Aside0.mk ht
  have HB := Aside0.mk (Below.refl w.heap.size w)
  clear hR hT ht
  go_enter Tryd.func91, Tryd.ntmps91
  go_wp2_with (first | ((with_reducible refine gate_dst (N := 2) rfl ?_); refine box_event ?hg (N := 2) ?hd (cs := #[.int .u64 0, .int .u64 0, .slice none 0 0]) (t := 40) ?hr ?_; (case hd => rfl); (case hg => rfl); (case hr => first | (go_simp; done) | (go_simp; rfl)); intro gb hg w4 hbox hb; (have BK := Aside0.mk hbox); (have HB1 := Aside0.mk (below_step HB.out hb)); (have GB := Aside0.mk (show w.heap.size ≤ gb by rw [hg]; exact HB.out.size)); (have HR1 := Aside0.mk (blk_below HR.out hb)); (have HT1 := Aside0.mk (Kd.C_below HT.out hb)); clear hbox hb hg HB HR HT; have HB := HB1; have HR := HR1; have HT := HT1; clear HB1 HR1 HT1) | (go_at_call 122; (with_reducible refine (compact_Range_Begin.calls br bf b e _ _ HR.out).mono ?_); rintro e5 w5 ⟨rfl, hb⟩; (have BK1 := Aside0.mk (blk_below BK.out hb)); (have HB1 := Aside0.mk (below_step HB.out hb)); (have HR1 := Aside0.mk (blk_below HR.out hb)); (have HT1 := Aside0.mk (Kd.C_below HT.out hb)); clear hb HB HR HT BK; have HB := HB1; have HR := HR1; have HT := HT1; have BK := BK1; clear HB1 HR1 HT1 BK1) | (go_at_call 123; (with_reducible refine (compact_Range_End.calls br bf b e _ _ HR.out).mono ?_); rintro e6 w6 ⟨rfl, hb⟩; (have BK1 := Aside0.mk (blk_below BK.out hb)); (have HB1 := Aside0.mk (below_step HB.out hb)); (have HR1 := Aside0.mk (blk_below HR.out hb)); (have HT1 := Aside0.mk (Kd.C_below HT.out hb)); clear hb HB HR HT BK; have HB := HB1; have HR := HR1; have HT := HT1; have BK := BK1; clear HB1 HR1 HT1 BK1) | (go_at_call 124; (with_reducible refine (compact_Range_Hashes.calls br bf b e A T.length c _ HR.out).mono ?_); rintro e7 w7 ⟨rfl, hb⟩; (have BK1 := Aside0.mk (blk_below BK.out hb)); (have HB1 := Aside0.mk (below_step HB.out hb)); (have HR1 := Aside0.mk (blk_below HR.out hb)); (have HT1 := Aside0.mk (Kd.C_below HT.out hb)); clear hb HB HR HT BK; have HB := HB1; have HR := HR1; have HT := HT1; have BK := BK1; clear HB1 HR1 HT1 BK1) | (go_at_call 70; (with_reducible refine (impl_texts.calls k A c T t _ HT.out hc HTX.out).mono ?_); rintro e8 w8 ⟨v8, rfl, ho, hb⟩; (obtain ⟨A8, c8, rfl⟩ := Kd.S_slice ho); (have BK1 := Aside0.mk (blk_below BK.out hb)); (have HO1 := Aside0.mk (Kd.S_lower ho HB.out.size)); (have HB1 := Aside0.mk (below_step HB.out hb)); clear ho hb HB HR HT BK; have HB := HB1; have BK := BK1; clear HB1 BK1; have hcz0 := (blk_cell BK.out 0).trans rfl; have hcz1 := (blk_cell BK.out 1).trans rfl; have hcz2 := (blk_cell BK.out 2).trans rfl; have hfz0 := blk_frozen BK.out 0; have hfz1 := blk_frozen BK.out 1; have hfz2 := blk_frozen BK.out 2))
  refine bodyPost_ret (results_cell_row rfl _ _ gb 40 #[.int .u64 b, .int .u64 e, .slice A8 t.length c8] (0, 0) _ rfl (((blk_set (blk_set (blk_set BK.out 0 _) 1 _) 2 _)).trans rfl) Tryd.underlying40 rfl (by kernel_rfl)) rfl ?_
  exact ⟨_, rfl, Kd.S_mono (Kd.S_far (p := ⟨gb, 2, none⟩) (Kd.S_far (p := ⟨gb, 1, none⟩) (Kd.S_far (p := ⟨gb, 0, none⟩) (Kd.S_types HO1.out BK.out (by decide)) (fun _ hk => hk.2) _) (fun _ hk => hk.2) _) (fun _ hk => hk.2) _) (fun _ _ => trivial), ((HB.out.setCell GB.out _).setCell GB.out _).setCell GB.out _⟩
def compact_getMergePath.f (a0 : Int) (a1 : Int) (a2 : Int) : Option (Int × Int) := (bits_TrailingZeros64.f a1).bind fun t228 => (if a0 = 0 then ((bits_Len64.f (Go.bits .xor .u64 (IntKind.u64.wrap (a1 - 1)) a2)).bind fun t229 => (if t229 < 64 then (some (IntKind.u64.wrap (t228), IntKind.u64.wrap (wrap64 (t229 - 1)))) else (some (IntKind.u64.wrap (t228), 64 - 1)))) else ((bits_Len64.f (Go.bits .xor .u64 a1 (IntKind.u64.wrap (a0 - 1)))).bind fun t230 => ((bits_Len64.f (Go.bits .xor .u64 (IntKind.u64.wrap (a1 - 1)) a2)).bind fun t231 => (if t231 < t230 then (some (IntKind.u64.wrap (t228), IntKind.u64.wrap (wrap64 (t231 - 1)))) else (some (IntKind.u64.wrap (t228), IntKind.u64.wrap (wrap64 (t230 - 1))))))))
set_option maxHeartbeats 8000000 in
set_option maxRecDepth 100000 in
theorem compact_getMergePath.calls (a0 : Int) (a1 : Int) (a2 : Int) (r1 : Int) (r2 : Int) (w : World) (hGT : GlobT w) (h : compact_getMergePath.f a0 a1 a2 = some (r1, r2)) :
    Calls Tryd.prog 106 #[.int .u64 a0, .int .u64 a1, .int .u64 a2] w fun e w' => e = .returned (.tuple #[.int .u64 r1, .int .u64 r2]) ∧ Drawn0 w w' := by
  have H : ((bits_TrailingZeros64.f a1).bind fun t228 => (if a0 = 0 then ((bits_Len64.f (Go.bits .xor .u64 (IntKind.u64.wrap (a1 - 1)) a2)).bind fun t229 => (if t229 < 64 then (some (IntKind.u64.wrap (t228), IntKind.u64.wrap (wrap64 (t229 - 1)))) else (some (IntKind.u64.wrap (t228), 64 - 1)))) else ((bits_Len64.f (Go.bits .xor .u64 a1 (IntKind.u64.wrap (a0 - 1)))).bind fun t230 => ((bits_Len64.f (Go.bits .xor .u64 (IntKind.u64.wrap (a1 - 1)) a2)).bind fun t231 => (if t231 < t230 then (some (IntKind.u64.wrap (t228), IntKind.u64.wrap (wrap64 (t231 - 1)))) else (some (IntKind.u64.wrap (t228), IntKind.u64.wrap (wrap64 (t230 - 1))))))))) = some (r1, r2) := h
  clear h
  replace H := Option.bind_eq_some_iff.mp H
  obtain ⟨t228, A40, H⟩ := H
  replace H : (if a0 = 0 then ((bits_Len64.f (Go.bits .xor .u64 (IntKind.u64.wrap (a1 - 1)) a2)).bind fun t229 => (if t229 < 64 then (some (IntKind.u64.wrap (t228), IntKind.u64.wrap (wrap64 (t229 - 1)))) else (some (IntKind.u64.wrap (t228), 64 - 1)))) else ((bits_Len64.f (Go.bits .xor .u64 a1 (IntKind.u64.wrap (a0 - 1)))).bind fun t230 => ((bits_Len64.f (Go.bits .xor .u64 (IntKind.u64.wrap (a1 - 1)) a2)).bind fun t231 => (if t231 < t230 then (some (IntKind.u64.wrap (t228), IntKind.u64.wrap (wrap64 (t231 - 1)))) else (some (IntKind.u64.wrap (t228), IntKind.u64.wrap (wrap64 (t230 - 1)))))))) = some (r1, r2) := H
  have A4 := Aside0.mk A40
  clear A40
  by_cases c5 : a0 = 0
  · rw [if_pos c5] at H
    have c5b0 : (a0 == 0) = true := beq_iff_eq.mpr c5
    have c5b1 : (a0 != 0) = false := bne_eq_false_iff_eq.mpr c5
    clear c5
    replace H := Option.bind_eq_some_iff.mp H
    obtain ⟨t229, A60, H⟩ := H
    replace H : (if t229 < 64 then (some (IntKind.u64.wrap (t228), IntKind.u64.wrap (wrap64 (t229 - 1)))) else (some (IntKind.u64.wrap (t228), 64 - 1))) = some (r1, r2) := H
    have A6 := Aside0.mk A60
    clear A60
    by_cases c7 : t229 < 64
    · rw [if_pos c7] at H
      have c7b0 : decide (t229 < 64) = true := decide_eq_true c7
      clear c7
      simp only [Option.some.injEq, Prod.mk.injEq] at H
      obtain ⟨rfl, rfl⟩ := H
      go_enter Tryd.func106, Tryd.ntmps106
      go_wp2_with (first | ((with_reducible refine gate_callee (f := 109) rfl ?_); refine goesL_ (some 12) rfl rfl Tryd.func109 (by kernel_rfl) rfl #[.int .u64 a1] rfl (by (try simp only [List.map_toArray, List.map_cons, List.map_nil]); first | done | rfl | (simp only [List.length_drop, List.length_take]; rfl)) ?_; (with_reducible refine (bits_TrailingZeros64.calls a1 t228 _ ?side1 A4.out).mono ?_); (case side1 => repeat (first | exact hGT | apply GlobT.drewN | apply GlobT.drew)); rintro e w' ⟨rfl, ⟨nd, rfl⟩⟩; refine ⟨_, rfl, ?_⟩) | ((with_reducible refine gate_callee (f := 110) rfl ?_); refine goesL_ (some 24) rfl rfl Tryd.func110 (by kernel_rfl) rfl #[.int .u64 (Go.bits .xor .u64 (IntKind.u64.wrap (a1 - 1)) a2)] rfl (by (try simp only [List.map_toArray, List.map_cons, List.map_nil]); first | done | rfl | (simp only [List.length_drop, List.length_take]; rfl)) ?_; (with_reducible refine (bits_Len64.calls (Go.bits .xor .u64 (IntKind.u64.wrap (a1 - 1)) a2) t229 _ A6.out).mono ?_); rintro e w' ⟨rfl, ⟨nd, rfl⟩⟩; refine ⟨_, rfl, ?_⟩))
      go_ret2
      exact ⟨by first | rfl | (simp; done) | (simp [*]; done), by repeat (first | exact Drawn0.refl _ | apply Drawn0.step)⟩
    · rw [if_neg c7] at H
      have c7b0 : decide (t229 < 64) = false := decide_eq_false c7
      clear c7
      simp only [Option.some.injEq, Prod.mk.injEq] at H
      obtain ⟨rfl, rfl⟩ := H
      go_enter Tryd.func106, Tryd.ntmps106
      go_wp2_with (first | ((with_reducible refine gate_callee (f := 109) rfl ?_); refine goesL_ (some 12) rfl rfl Tryd.func109 (by kernel_rfl) rfl #[.int .u64 a1] rfl (by (try simp only [List.map_toArray, List.map_cons, List.map_nil]); first | done | rfl | (simp only [List.length_drop, List.length_take]; rfl)) ?_; (with_reducible refine (bits_TrailingZeros64.calls a1 t228 _ ?side1 A4.out).mono ?_); (case side1 => repeat (first | exact hGT | apply GlobT.drewN | apply GlobT.drew)); rintro e w' ⟨rfl, ⟨nd, rfl⟩⟩; refine ⟨_, rfl, ?_⟩) | ((with_reducible refine gate_callee (f := 110) rfl ?_); refine goesL_ (some 24) rfl rfl Tryd.func110 (by kernel_rfl) rfl #[.int .u64 (Go.bits .xor .u64 (IntKind.u64.wrap (a1 - 1)) a2)] rfl (by (try simp only [List.map_toArray, List.map_cons, List.map_nil]); first | done | rfl | (simp only [List.length_drop, List.length_take]; rfl)) ?_; (with_reducible refine (bits_Len64.calls (Go.bits .xor .u64 (IntKind.u64.wrap (a1 - 1)) a2) t229 _ A6.out).mono ?_); rintro e w' ⟨rfl, ⟨nd, rfl⟩⟩; refine ⟨_, rfl, ?_⟩))
      go_ret2
      exact ⟨by first | rfl | (simp; done) | (simp [*]; done), by repeat (first | exact Drawn0.refl _ | apply Drawn0.step)⟩
  · rw [if_neg c5] at H
    have c5b0 : (a0 == 0) = false := beq_eq_false_iff_ne.mpr c5
    have c5b1 : (a0 != 0) = true := bne_iff_ne.mpr c5
    replace H := Option.bind_eq_some_iff.mp H
    obtain ⟨t230, A80, H⟩ := H
    replace H : ((bits_Len64.f (Go.bits .xor .u64 (IntKind.u64.wrap (a1 - 1)) a2)).bind fun t231 => (if t231 < t230 then (some (IntKind.u64.wrap (t228), IntKind.u64.wrap (wrap64 (t231 - 1)))) else (some (IntKind.u64.wrap (t228), IntKind.u64.wrap (wrap64 (t230 - 1)))))) = some (r1, r2) := H
    have A8 := Aside0.mk A80
    clear A80
    replace H := Option.bind_eq_some_iff.mp H
    obtain ⟨t231, A90, H⟩ := H
    replace H : (if t231 < t230 then (some (IntKind.u64.wrap (t228), IntKind.u64.wrap (wrap64 (t231 - 1)))) else (some (IntKind.u64.wrap (t228), IntKind.u64.wrap (wrap64 (t230 - 1))))) = some (r1, r2) := H
    have A9 := Aside0.mk A90
    clear A90
    by_cases c10 : t231 < t230
    · rw [if_pos c10] at H
      have c10b0 : decide (t231 < t230) = true := decide_eq_true c10
      clear c10
      simp only [Option.some.injEq, Prod.mk.injEq] at H
      obtain ⟨rfl, rfl⟩ := H
      go_enter Tryd.func106, Tryd.ntmps106
      go_wp2_with (first | ((with_reducible refine gate_callee (f := 109) rfl ?_); refine goesL_ (some 12) rfl rfl Tryd.func109 (by kernel_rfl) rfl #[.int .u64 a1] rfl (by (try simp only [List.map_toArray, List.map_cons, List.map_nil]); first | done | rfl | (simp only [List.length_drop, List.length_take]; rfl)) ?_; (with_reducible refine (bits_TrailingZeros64.calls a1 t228 _ ?side1 A4.out).mono ?_); (case side1 => repeat (first | exact hGT | apply GlobT.drewN | apply GlobT.drew)); rintro e w' ⟨rfl, ⟨nd, rfl⟩⟩; refine ⟨_, rfl, ?_⟩) | ((with_reducible refine gate_callee (f := 110) rfl ?_); refine goesL_ (some 19) rfl rfl Tryd.func110 (by kernel_rfl) rfl #[.int .u64 (Go.bits .xor .u64 a1 (IntKind.u64.wrap (a0 - 1)))] rfl (by (try simp only [List.map_toArray, List.map_cons, List.map_nil]); first | done | rfl | (simp only [List.length_drop, List.length_take]; rfl)) ?_; (with_reducible refine (bits_Len64.calls (Go.bits .xor .u64 a1 (IntKind.u64.wrap (a0 - 1))) t230 _ A8.out).mono ?_); rintro e w' ⟨rfl, ⟨nd, rfl⟩⟩; refine ⟨_, rfl, ?_⟩) | ((with_reducible refine gate_callee (f := 110) rfl ?_); refine goesL_ (some 24) rfl rfl Tryd.func110 (by kernel_rfl) rfl #[.int .u64 (Go.bits .xor .u64 (IntKind.u64.wrap (a1 - 1)) a2)] rfl (by (try simp only [List.map_toArray, List.map_cons, List.map_nil]); first | done | rfl | (simp only [List.length_drop, List.length_take]; rfl)) ?_; (with_reducible refine (bits_Len64.calls (Go.bits .xor .u64 (IntKind.u64.wrap (a1 - 1)) a2) t231 _ A9.out).mono ?_); rintro e w' ⟨rfl, ⟨nd, rfl⟩⟩; refine ⟨_, rfl, ?_⟩))
      go_ret2
      exact ⟨by first | rfl | (simp; done) | (simp [*]; done), by repeat (first | exact Drawn0.refl _ | apply Drawn0.step)⟩
    · rw [if_neg c10] at H
      have c10b0 : decide (t231 < t230) = false := decide_eq_false c10
      clear c10
      simp only [Option.some.injEq, Prod.mk.injEq] at H
      obtain ⟨rfl, rfl⟩ := H
      go_enter Tryd.func106, Tryd.ntmps106
      go_wp2_with (first | ((with_reducible refine gate_callee (f := 109) rfl ?_); refine goesL_ (some 12) rfl rfl Tryd.func109 (by kernel_rfl) rfl #[.int .u64 a1] rfl (by (try simp only [List.map_toArray, List.map_cons, List.map_nil]); first | done | rfl | (simp only [List.length_drop, List.length_take]; rfl)) ?_; (with_reducible refine (bits_TrailingZeros64.calls a1 t228 _ ?side1 A4.out).mono ?_); (case side1 => repeat (first | exact hGT | apply GlobT.drewN | apply GlobT.drew)); rintro e w' ⟨rfl, ⟨nd, rfl⟩⟩; refine ⟨_, rfl, ?_⟩) | ((with_reducible refine gate_callee (f := 110) rfl ?_); refine goesL_ (some 19) rfl rfl Tryd.func110 (by kernel_rfl) rfl #[.int .u64 (Go.bits .xor .u64 a1 (IntKind.u64.wrap (a0 - 1)))] rfl (by (try simp only [List.map_toArray, List.map_cons, List.map_nil]); first | done | rfl | (simp only [List.length_drop, List.length_take]; rfl)) ?_; (with_reducible refine (bits_Len64.calls (Go.bits .xor .u64 a1 (IntKind.u64.wrap (a0 - 1))) t230 _ A8.out).mono ?_); rintro e w' ⟨rfl, ⟨nd, rfl⟩⟩; refine ⟨_, rfl, ?_⟩) | ((with_reducible refine gate_callee (f := 110) rfl ?_); refine goesL_ (some 24) rfl rfl Tryd.func110 (by kernel_rfl) rfl #[.int .u64 (Go.bits .xor .u64 (IntKind.u64.wrap (a1 - 1)) a2)] rfl (by (try simp only [List.map_toArray, List.map_cons, List.map_nil]); first | done | rfl | (simp only [List.length_drop, List.length_take]; rfl)) ?_; (with_reducible refine (bits_Len64.calls (Go.bits .xor .u64 (IntKind.u64.wrap (a1 - 1)) a2) t231 _ A9.out).mono ?_); rintro e w' ⟨rfl, ⟨nd, rfl⟩⟩; refine ⟨_, rfl, ?_⟩))
      go_ret2
      exact ⟨by first | rfl | (simp; done) | (simp [*]; done), by repeat (first | exact Drawn0.refl _ | apply Drawn0.step)⟩
end Go.Proofs.YtijldedhcjkhiaaDoor.T
