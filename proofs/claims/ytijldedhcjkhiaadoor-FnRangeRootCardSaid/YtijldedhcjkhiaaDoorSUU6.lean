import Derived.Test.YtijldedhcjkhiaaDoorSUU0
import Derived.Test.YtijldedhcjkhiaaDoorSUU2
import Derived.Test.YtijldedhcjkhiaaDoorSUU4
import Derived.Test.YtijldedhcjkhiaaDoorSUU5
namespace Go.Proofs.YtijldedhcjkhiaaDoor.U
open Go.RowKit Go.Proofs.YtijldedhcjkhiaaDoorW.PrintWords Go.Proofs.YtijldedhcjkhiaaDoorW.PrintLast Go.Proofs.YtijldedhcjkhiaaDoorW.PrintMore
attribute [local go_sem] max2_int min2_int max_two min_two max_three min_three max_four min_four   -- for this text's walks alone
set_option linter.unusedVariables false
set_option linter.unusedSimpArgs false
def impl_RootHash.f (k : Nat) (h0 h1 h2 h3 h4 h5 : Int) (b e : Int) (l1 : List (List Int)) : Option (List Int × List S88 × Bool) :=
  (impl_texts.f k l1).bind fun t => (compact_RangeSize.f b e).bind fun sz => if b ≤ e ∧ 0 ≤ b ∧ e < 18446744073709551616 ∧ t.length ≤ 100000 ∧ (t.length : Int) = sz then (if b = 0 then (if t.length = 0 then some ([], [], true) else (rroot k h0 h1 h2 h3 h4 h5 t (t.length - 1) (t.getD (t.length - 1) []) e.toNat []).bind fun r => if r.1.length < 140737488355328 then some (r.1, r.2, true) else none) else some ([], [], false)) else none
theorem impl_RootHash.mono (h0 h1 h2 h3 h4 h5 b e : Int) (l1 : List (List Int)) : ∀ k, LeO (impl_RootHash.f k h0 h1 h2 h3 h4 h5 b e l1) (impl_RootHash.f (k + 1) h0 h1 h2 h3 h4 h5 b e l1) := by
  intro k
  unfold impl_RootHash.f
  refine LeO.bind (impl_texts.mono _ _) fun t => LeO.bind (LeO.refl _) fun sz => LeO.ite (LeO.ite (LeO.ite (LeO.refl _) (LeO.bind (rroot_mono _ _ _ _ _ _ _ _ _ _ _ _) fun r => LeO.refl _)) (LeO.refl _)) (LeO.none _)
def impl_RootHash.T2 : Bool × List (List Nat × List Nat) := (true, [([], []), ([], []), ([1], [1]), ([], []), ([3], [3]), ([], []), ([5], [5]), ([6], [6]), ([0, 2, 4, 7, 7], [0, 2, 4, 7]), ([8], [8]), ([9], [9]), ([9], [9]), ([10, 8, 0, 1, 2, 3, 4, 5, 6, 7, 8, 9, 10], [10]), ([11, 12, 0, 1, 2, 3, 4, 5, 6, 7, 8, 9, 10, 11, 12], [11])])
def impl_RootHash.B2 : List Nat := [0, 0, 2, 0, 8, 0, 32, 96, 255, 511, 1023, 1023, 2047, 8191]
theorem impl_RootHash.tab2 : rtab .any (opsOf Tryd.f23 2) = impl_RootHash.T2 := by kernel_rfl
theorem impl_RootHash.bits2 : waitsOk impl_RootHash.T2.2 impl_RootHash.B2 = true := by kernel_rfl
def impl_RootHash.T9 : Bool × List (List Nat × List Nat) := (true, [([], []), ([0], [0]), ([], []), ([1, 1, 0, 1], [1]), ([2, 3, 0, 1, 2, 3], [2]), ([4, 0, 1, 2, 3, 4], [])])
def impl_RootHash.B9 : List Nat := [0, 1, 0, 3, 15, 31]
theorem impl_RootHash.tab9 : rtab .any (opsOf Tryd.f23 9) = impl_RootHash.T9 := by kernel_rfl
theorem impl_RootHash.bits9 : waitsOk impl_RootHash.T9.2 impl_RootHash.B9 = true := by kernel_rfl
set_option maxHeartbeats 8000000 in
set_option maxRecDepth 100000 in
theorem impl_RootHash.calls (k : Nat) (a0_0 : Int) (a0_1 : Int) (a0_2 : Int) (a0_3 : Int) (a0_4 : Int) (a0_5 : Int) (a1_0 : Int) (a1_1 : Int) (A1_2 : Option Addr) (c1_2 : Nat) (l1_2 : List (List Int)) (r1 : List Int) (r2 : List S88) (r3 : Bool) (w : World) (hGT : GlobT w) (hr1_2 : Kd.C (Kd.slice 5 (Kd.int .u8)) w A1_2 l1_2.length l1_2) (hc1_2 : l1_2.length ≤ c1_2) (h : impl_RootHash.f k a0_0 a0_1 a0_2 a0_3 a0_4 a0_5 a1_0 a1_1 l1_2 = some (r1, r2, r3)) :
    Calls Tryd.prog 23 #[.agg #[.int .i64 a0_0, .int .i64 a0_1, .int .i64 a0_2, .int .u64 a0_3, .int .u64 a0_4, .int .u64 a0_5], .agg #[.int .u64 a1_0, .int .u64 a1_1, .slice A1_2 l1_2.length c1_2]] w fun e w' => ∃ v0_ v1_ : Value, e = .returned (.tuple #[v0_, v1_, .bool r3]) ∧ Kd.R (Kd.int .u8) 5 w' w.heap.size (fun _ => True) v0_ r1 ∧ Kd.S k88 88 w' w.heap.size (fun _ => True) v1_ r2 ∧ Below w.heap.size w w' := by
  have hu37 := Tryd.underlying37
  have hu40 := Tryd.underlying40
  have hu117 := Tryd.underlying117
  have hu120 := Tryd.underlying120
  have hu38 := Tryd.underlying38
  have HR1 := Aside0.mk hr1_2
  have HB := Aside0.mk (Below.refl w.heap.size w)
  clear hr1_2
  unfold impl_RootHash.f at h
  replace h := Option.bind_eq_some_iff.mp h
  obtain ⟨t, hA1, H⟩ := h
  replace H := Option.bind_eq_some_iff.mp H
  obtain ⟨sz, hA2, H⟩ := H
  by_cases hsz : a1_0 ≤ a1_1 ∧ 0 ≤ a1_0 ∧ a1_1 < 18446744073709551616 ∧ t.length ≤ 100000 ∧ (t.length : Int) = sz
  case neg => rw [if_neg hsz] at H; cases H
  rw [if_pos hsz] at H
  have A1 := Aside0.mk hA1
  have A2_ := Aside0.mk hA2
  have HBE := Aside0.mk (And.intro hsz.1 hsz.2.2.2.2)
  have HSZ := Aside0.mk hsz
  have HH := Aside0.mk H
  clear hA1 hA2 hsz H
  go_enter Tryd.func23, Tryd.ntmps23
  go_wp2_with (first | ((with_reducible refine gate_dst (N := 2) rfl ?_); refine box_event ?hg (N := 2) ?hd (cs := #[.int .i64 a0_0, .int .i64 a0_1, .int .i64 a0_2, .int .u64 a0_3, .int .u64 a0_4, .int .u64 a0_5]) (t := 37) ?hr ?_; (case hd => rfl); (case hg => rfl); (case hr => first | (go_simp; done) | (go_simp; rfl)); intro gb2 hg w3 hbox hb; (have BK3 := Aside0.mk hbox); (have HB1 := Aside0.mk (below_step HB.out hb)); clear hbox hb hg HB; have HB := HB1; clear HB1) | ((with_reducible refine gate_dst (N := 3) rfl ?_); refine box_event ?hg (N := 3) ?hd (cs := #[.int .u64 a1_0, .int .u64 a1_1, .slice A1_2 l1_2.length c1_2]) (t := 40) ?hr ?_; (case hd => rfl); (case hg => rfl); (case hr => first | (go_simp; done) | (go_simp; rfl)); intro gb3 hg w4 hbox hb; (have BK4 := Aside0.mk hbox); (have BK31 := Aside0.mk (blk_below BK3.out hb)); (have HB1 := Aside0.mk (below_step HB.out hb)); clear hbox hb hg HB BK3; have HB := HB1; have BK3 := BK31; clear HB1 BK31; have hc3_0 := (blk_cell BK3.out 0).trans rfl; have hc3_1 := (blk_cell BK3.out 1).trans rfl; have hc3_2 := (blk_cell BK3.out 2).trans rfl; have hc3_3 := (blk_cell BK3.out 3).trans rfl; have hc3_4 := (blk_cell BK3.out 4).trans rfl; have hc3_5 := (blk_cell BK3.out 5).trans rfl) | ((with_reducible refine gate_dst (N := 16) rfl ?_); refine box_event ?hg (N := 16) ?hd (cs := facCells a0_0 a0_1 a0_2 a0_3 a0_4 a0_5) (t := 117) ?hr ?_; (case hd => rfl); (case hg => rfl); (case hr => first | (go_simp; done) | (go_simp; rfl)); intro bf hg w7 hbox hb; clear hc3_0 hc3_1 hc3_2 hc3_3 hc3_4 hc3_5; (have BF := Aside0.mk hbox); (have BK41 := Aside0.mk (blk_below BK4.out hb)); (have HB1 := Aside0.mk (below_step HB.out hb)); (have GF := Aside0.mk (show w.heap.size ≤ bf by rw [hg]; exact HB.out.size)); clear hbox hb hg HB BK3 BK4; have HB := HB1; have BK4 := BK41; clear HB1 BK41))
  have BF1 := Aside0.mk (blk_drew BF.out)
  have BK41 := Aside0.mk (blk_drew BK4.out)
  have HB1 := Aside0.mk (below_drew1 HB.out)
  clear BF BK4 HB
  have BF := BF1
  have BK4 := BK41
  have HB := HB1
  clear BF1 BK41 HB1
  refine start_ (n := 14) (S := fun w' => w'.cell? ⟨gb3, 0, none⟩ = some (.int .u64 a1_0) ∧ w'.cell? ⟨gb3, 1, none⟩ = some (.int .u64 a1_1) ∧ w'.cell? ⟨gb3, 2, none⟩ = some (.slice A1_2 l1_2.length c1_2)) (ds := []) #[false, false, false, false, false, false, false, false, false, false, false, false, false, false] (by kernel_rfl) rfl rfl (⟨(blk_cell BK4.out 0).trans rfl, (blk_cell BK4.out 1).trans rfl, (blk_cell BK4.out 2).trans rfl⟩) (fun hHeld => ?_)
  refine with_tabW impl_RootHash.tab2 impl_RootHash.bits2 (fun HT_ HW_ => ?_)
  generalize w7.drew = w8 at BF BK4 HB hHeld ⊢
  refine pure_ (i := 0) (N := (some 18)) (v := ?_) (a' := ?_) #[true, false, false, false, false, false, false, false, false, false, false, false, false, false] rfl rfl (any_of HT_.out (by kernel_rfl)) (fun _ _ _ h => h) (Or.inl ⟨by rfl, ?_⟩) ?_ ?_
  rotate_left
  · intro w'
    go_simp
    with_reducible rfl
  rotate_left
  · simp only [Act.put, List.setIfInBounds_toArray, List.set_cons_zero, List.set_cons_succ, i64_w, i32_w]
    rfl
  refine pure_ (i := 1) (N := (some 19)) (v := ?_) (a' := ?_) #[true, true, false, false, false, false, false, false, false, false, false, false, false, false] rfl rfl (any_of HT_.out (by kernel_rfl)) (fun _ _ _ h => h) (Or.inl ⟨by rfl, ?_⟩) ?_ ?_
  rotate_left
  · intro w'
    go_simp
    with_reducible rfl
  rotate_left
  · simp only [Act.put, List.setIfInBounds_toArray, List.set_cons_zero, List.set_cons_succ, i64_w, i32_w]
    rfl
  refine take_ (i := 2) (N := (some 20)) (v := ?_) (a' := ?_) #[true, true, true, false, false, false, false, false, false, false, false, false, false, false] rfl rfl (take_ofW HT_.out HW_.out (by kernel_rfl)) (fun _ _ _ h => h) (Or.inl ⟨by rfl, ?_⟩) hHeld ?_ ?_
  rotate_left
  · rintro w' ⟨s0, s1, s2⟩
    go_simp
    with_reducible rfl
  rotate_left
  · simp only [Act.put, List.setIfInBounds_toArray, List.set_cons_zero, List.set_cons_succ, i64_w, i32_w]
    rfl
  refine pure_ (i := 3) (N := (some 21)) (v := ?_) (a' := ?_) #[true, true, true, true, false, false, false, false, false, false, false, false, false, false] rfl rfl (any_of HT_.out (by kernel_rfl)) (fun _ _ _ h => h) (Or.inl ⟨by rfl, ?_⟩) ?_ ?_
  rotate_left
  · intro w'
    go_simp
    with_reducible rfl
  rotate_left
  · simp only [Act.put, List.setIfInBounds_toArray, List.set_cons_zero, List.set_cons_succ, i64_w, i32_w]
    rfl
  refine take_ (i := 4) (N := (some 22)) (v := ?_) (a' := ?_) #[true, true, true, true, true, false, false, false, false, false, false, false, false, false] rfl rfl (take_ofW HT_.out HW_.out (by kernel_rfl)) (fun _ _ _ h => h) (Or.inl ⟨by rfl, ?_⟩) hHeld ?_ ?_
  rotate_left
  · rintro w' ⟨s0, s1, s2⟩
    go_simp
    with_reducible rfl
  rotate_left
  · simp only [Act.put, List.setIfInBounds_toArray, List.set_cons_zero, List.set_cons_succ, i64_w, i32_w]
    rfl
  refine pure_ (i := 5) (N := (some 23)) (v := ?_) (a' := ?_) #[true, true, true, true, true, true, false, false, false, false, false, false, false, false] rfl rfl (any_of HT_.out (by kernel_rfl)) (fun _ _ _ h => h) (Or.inl ⟨by rfl, ?_⟩) ?_ ?_
  rotate_left
  · intro w'
    go_simp
    with_reducible rfl
  rotate_left
  · simp only [Act.put, List.setIfInBounds_toArray, List.set_cons_zero, List.set_cons_succ, i64_w, i32_w]
    rfl
  refine take_ (i := 6) (N := (some 24)) (v := ?_) (a' := ?_) #[true, true, true, true, true, true, true, false, false, false, false, false, false, false] rfl rfl (take_ofW HT_.out HW_.out (by kernel_rfl)) (fun _ _ _ h => h) (Or.inl ⟨by rfl, ?_⟩) hHeld ?_ ?_
  rotate_left
  · rintro w' ⟨s0, s1, s2⟩
    go_simp
    with_reducible rfl
  rotate_left
  · simp only [Act.put, List.setIfInBounds_toArray, List.set_cons_zero, List.set_cons_succ, i64_w, i32_w]
    rfl
  refine one_ (i := 7) (N := (some 25)) #[true, true, true, true, true, true, true, true, false, false, false, false, false, false] rfl rfl (one_of HT_.out (by kernel_rfl)) (by decide) (fun K hK => ?_)
  refine goes_ Tryd.func70 (by kernel_rfl) rfl #[.slice A1_2 l1_2.length c1_2] (by rfl) rfl rfl (by (try simp only [List.map_toArray, List.map_cons, List.map_nil]); first | done | rfl) ?_
  with_reducible refine (impl_texts.calls k A1_2 c1_2 l1_2 t _ ?side1 hc1_2 A1.out).mono ?_
  case side1 => exact Kd.C_below HR1.out HB.out
  rintro e6 w9 ⟨v9, rfl, ho, hb⟩
  refine ⟨_, rfl, ?_⟩
  obtain ⟨A9, c9, rfl⟩ := Kd.S_slice ho
  have HO9 := Aside0.mk ho
  have Z8 := Aside0.mk (And.intro HB.out.size (And.intro (blk_lt BF.out) hb.size))
  have BF1 := Aside0.mk (blk_below BF.out hb)
  have BK41 := Aside0.mk (blk_below BK4.out hb)
  have HB1 := Aside0.mk (below_step HB.out hb)
  clear BF BK4 HB hb ho
  have BF := BF1
  have BK4 := BK41
  have HB := HB1
  clear BF1 BK41 HB1
  refine hK.out _ _ ⟨(blk_cell BK4.out 0).trans rfl, (blk_cell BK4.out 1).trans rfl, (blk_cell BK4.out 2).trans rfl⟩ (fun hHeld => ?_)
  clear hK K
  refine norm_ (a' := ?_) ?_ ?_
  rotate_left
  · show Act.put _ (some 25) _ = _
    simp only [Act.put, List.setIfInBounds_toArray, List.set_cons_zero, List.set_cons_succ, i64_w, i32_w]
    rfl
  refine one_ (i := 8) (N := (some 26)) #[true, true, true, true, true, true, true, true, true, false, false, false, false, false] rfl rfl (one_of HT_.out (by kernel_rfl)) (by decide) (fun K hK => ?_)
  refine goes_ Tryd.func69 (by kernel_rfl) rfl #[.pointer (some ⟨bf, 0, none⟩), .int .u64 a1_0, .int .u64 a1_1, .slice A9 t.length c9] (by rfl) rfl rfl (by (try simp only [List.map_toArray, List.map_cons, List.map_nil]); first | done | rfl) ?_
  with_reducible refine (compact_RangeFactory_NewRange.calls ⟨bf, 0, none⟩ a1_0 a1_1 sz A9 t.length c9 HBE.out.1 A2_.out HBE.out.2 _).mono ?_
  rintro e6 w10 ⟨br, rfl, hbr, hge, hb⟩
  refine ⟨_, rfl, ?_⟩
  have Z9 := Aside0.mk (And.intro hge hb.size)
  have BR := Aside0.mk hbr
  have HO91 := Aside0.mk (Kd.S_below HO9.out hb)
  have BF1 := Aside0.mk (blk_below BF.out hb)
  have BK41 := Aside0.mk (blk_below BK4.out hb)
  have HB1 := Aside0.mk (below_step HB.out hb)
  clear BF BK4 HB hb hbr hge HO9
  have BF := BF1
  have BK4 := BK41
  have HB := HB1
  have HO9 := HO91
  clear BF1 BK41 HB1 HO91
  refine hK.out _ _ ⟨(blk_cell BK4.out 0).trans rfl, (blk_cell BK4.out 1).trans rfl, (blk_cell BK4.out 2).trans rfl⟩ (fun hHeld => ?_)
  clear hK K
  refine norm_ (a' := ?_) ?_ ?_
  rotate_left
  · show Act.put _ (some 26) _ = _
    simp only [Act.put, List.setIfInBounds_toArray, List.set_cons_zero, List.set_cons_succ, i64_w, i32_w]
    rfl
  refine pure_ (i := 9) (N := (some 17)) (v := ?_) (a' := ?_) #[true, true, true, true, true, true, true, true, true, true, false, false, false, false] rfl rfl (any_of HT_.out (by kernel_rfl)) (fun _ _ _ h => h) (Or.inl ⟨by rfl, ?_⟩) ?_ ?_
  rotate_left
  · intro w'
    go_simp
    with_reducible rfl
  rotate_left
  · simp only [Act.put, List.setIfInBounds_toArray, List.set_cons_zero, List.set_cons_succ, i64_w, i32_w]
    rfl
  refine pure_ (i := 10) (N := (some 27)) (v := ?_) (a' := ?_) #[true, true, true, true, true, true, true, true, true, true, true, false, false, false] rfl rfl (any_of HT_.out (by kernel_rfl)) (fun _ _ _ h => h) (Or.inl ⟨by rfl, ?_⟩) ?_ ?_
  rotate_left
  · intro w'
    go_simp
    with_reducible rfl
  rotate_left
  · simp only [Act.put, List.setIfInBounds_toArray, List.set_cons_zero, List.set_cons_succ, i64_w, i32_w]
    rfl
  refine pure_ (i := 11) (N := (some 28)) (v := ?_) (a' := ?_) #[true, true, true, true, true, true, true, true, true, true, true, true, false, false] rfl rfl (any_of HT_.out (by kernel_rfl)) (fun _ _ _ h => h) (Or.inl ⟨by rfl, ?_⟩) ?_ ?_
  rotate_left
  · intro w'
    go_simp
    with_reducible rfl
  rotate_left
  · simp only [Act.put, List.setIfInBounds_toArray, List.set_cons_zero, List.set_cons_succ, i64_w, i32_w]
    rfl
  refine pure_ (i := 12) (N := (some 8)) (v := ?_) (a' := ?_) #[true, true, true, true, true, true, true, true, true, true, true, true, true, false] rfl rfl (any_of HT_.out (by kernel_rfl)) (fun _ _ _ h => h) (Or.inl ⟨by rfl, ?_⟩) ?_ ?_
  rotate_left
  · intro w'
    go_simp
    with_reducible rfl
  rotate_left
  · simp only [Act.put, List.setIfInBounds_toArray, List.set_cons_zero, List.set_cons_succ, i64_w, i32_w]
    rfl
  refine pure_ (i := 13) (N := (some 9)) (v := ?_) (a' := ?_) #[true, true, true, true, true, true, true, true, true, true, true, true, true, true] rfl rfl (any_of HT_.out (by kernel_rfl)) (fun _ _ _ h => h) (Or.inl ⟨by rfl, ?_⟩) ?_ ?_
  rotate_left
  · intro w'
    go_simp
    with_reducible rfl
  rotate_left
  · simp only [Act.put, List.setIfInBounds_toArray, List.set_cons_zero, List.set_cons_succ, i64_w, i32_w]
    rfl
  refine done_ (done_of HT_.out (by kernel_rfl)) ?_
  clear hHeld BK4
  go_wp2_with (first | ((with_reducible refine gate_dst (N := 10) rfl ?_); refine box_event ?hg (N := 10) ?hd (cs := #[.slice none 0 0]) (t := 43) ?hr ?_; (case hd => rfl); (case hg => rfl); (case hr => first | (go_simp; done) | (go_simp; rfl)); intro s hg w11 hbox hb; (have BS := Aside0.mk hbox); (have BF1 := Aside0.mk (blk_below BF.out hb)); (have BR1 := Aside0.mk (blk_below BR.out hb)); (have HB1 := Aside0.mk (below_step HB.out hb)); (have Z11 := Aside0.mk (And.intro hg (And.intro (blk_lt BR.out) (And.intro (blk_lt BF.out) HB.out.size)))); (have HO91 := Aside0.mk (Kd.S_below HO9.out hb)); clear hbox hb hg HB BF BR HO9; have HB := HB1; have BF := BF1; have BR := BR1; have HO9 := HO91; clear HB1 BF1 BR1 HO91))
  have hgr : GlobT w11 := hGT.below HB.out
  have hv72 := impl_RootHash_1.ok
  by_cases hb0 : a1_0 = 0
  · subst hb0
    have H := HH.out
    rw [if_pos rfl] at H
    rcases Nat.eq_zero_or_pos t.length with ht0 | htp
    · rw [if_pos ht0] at H
      simp only [Option.some.injEq, Prod.mk.injEq] at H
      obtain ⟨rfl, rfl, rfl⟩ := H
      have BR0 : w11.heap[br]? = some (.cells (rngCells bf 0 a1_1 (.slice A9 0 c9)) 167 (0, 0)) := by have h := BR.out; rw [ht0] at h; exact h
      refine (compact_Range_GetRootHash.calls0 bf br 72 s a1_1 A9 c9 w11 BR0).mono ?_
      rintro e6 w12 ⟨rfl, hb⟩
      have HS := Aside0.mk (blk_below BS.out hb)
      have HB1 := Aside0.mk (below_step HB.out hb)
      clear hb HB BR0
      have HB := HB1
      clear HB1
      go_wp2
      have HS1 := Aside0.mk (blk_drew HS.out)
      have HB1 := Aside0.mk (below_drew1 HB.out)
      clear HS HB
      have HS := HS1
      have HB := HB1
      clear HS1 HB1
      refine start_ (n := 6) (S := fun w' => w'.cell? ⟨s, 0, none⟩ = some (.slice none 0 0)) (ds := []) #[false, false, false, false, false, false] (by kernel_rfl) rfl rfl ((blk_cell HS.out 0).trans rfl) (fun hHeld => ?_)
      refine with_tabW impl_RootHash.tab9 impl_RootHash.bits9 (fun HT_ HW_ => ?_)
      generalize w12.drew = w13 at HS HB hHeld ⊢
      refine pure_ (i := 0) (N := (some 39)) (v := ?_) (a' := ?_) #[true, false, false, false, false, false] rfl rfl (any_of HT_.out (by kernel_rfl)) (fun _ _ _ h => h) (Or.inl ⟨by rfl, ?_⟩) ?_ ?_
      rotate_left
      · intro w'
        go_simp
        with_reducible rfl
      rotate_left
      · simp only [Act.put, List.setIfInBounds_toArray, List.set_cons_zero, List.set_cons_succ, i64_w, i32_w]
        rfl
      refine take_ (i := 2) (N := (some 41)) (v := ?_) (a' := ?_) #[true, false, true, false, false, false] rfl rfl (take_ofW HT_.out HW_.out (by kernel_rfl)) (fun _ _ _ h => h) (Or.inl ⟨by rfl, ?_⟩) hHeld ?_ ?_
      rotate_left
      · intro w' s0
        go_simp
        with_reducible rfl
      rotate_left
      · simp only [Act.put, List.setIfInBounds_toArray, List.set_cons_zero, List.set_cons_succ, i64_w, i32_w]
        rfl
      refine one_ (i := 1) (N := (some 40)) #[true, true, true, false, false, false] rfl rfl (one_of HT_.out (by kernel_rfl)) (by decide) (fun K hK => ?_)
      refine Kd.R_append_rows_step (Kd.int .u8) (w0 := w) w.heap.size (by rfl) (.const (.slice none 0 0)) (.tmp 39) 42 5 (.int .u8 0) 1 rfl Tryd.underlying42 info5 rfl (by decide) (by omega) (.slice none 0 0) ([] : List Int) [] _ _ _ (fun _ => True) (fun _ => False) rfl rfl (Kd.R_nil _ _ _ _ _) (Kd.F_now (Kd.F_nil _ _ (fun _ => True))) (fun _ _ h => h) (fun _ h => h.elim) (fun _ _ => trivial) HB.out HB.out.size (by simp) ?_
      intro v10 w10 ho hb hg hat
      have HO := Aside0.mk ho
      have HS1 := Aside0.mk (blk_grown HS.out hg (by simp [Value.ownBlock]))
      have HB1 := Aside0.mk hb
      clear ho hb hg hat HS HB
      have HS := HS1
      have HB := HB1
      clear HS1 HB1
      refine hK.out _ _ ((blk_cell HS.out 0).trans rfl) (fun hHeld => ?_)
      clear hK K
      refine norm_ (a' := ?_) ?_ ?_
      rotate_left
      · show Act.put _ (some 40) _ = _
        simp only [Act.put, List.setIfInBounds_toArray, List.set_cons_zero, List.set_cons_succ, i64_w, i32_w]
        rfl
      refine pure_ (i := 3) (N := (some 4)) (v := ?_) (a' := ?_) #[true, true, true, true, false, false] rfl rfl (any_of HT_.out (by kernel_rfl)) (fun _ _ _ h => h) (Or.inl ⟨by rfl, ?_⟩) ?_ ?_
      rotate_left
      · intro w'
        go_simp
        with_reducible rfl
      rotate_left
      · simp only [Act.put, List.setIfInBounds_toArray, List.set_cons_zero, List.set_cons_succ, i64_w, i32_w]
        rfl
      refine pure_ (i := 4) (N := (some 5)) (v := ?_) (a' := ?_) #[true, true, true, true, true, false] rfl rfl (any_of HT_.out (by kernel_rfl)) (fun _ _ _ h => h) (Or.inl ⟨by rfl, ?_⟩) ?_ ?_
      rotate_left
      · intro w'
        go_simp
        with_reducible rfl
      rotate_left
      · simp only [Act.put, List.setIfInBounds_toArray, List.set_cons_zero, List.set_cons_succ, i64_w, i32_w]
        rfl
      refine pure_ (i := 5) (N := (some 6)) (v := ?_) (a' := ?_) #[true, true, true, true, true, true] rfl rfl (any_of HT_.out (by kernel_rfl)) (fun _ _ _ h => h) (Or.inl ⟨by rfl, ?_⟩) ?_ ?_
      rotate_left
      · intro w'
        go_simp
        with_reducible rfl
      rotate_left
      · simp only [Act.put, List.setIfInBounds_toArray, List.set_cons_zero, List.set_cons_succ, i64_w, i32_w]
        rfl
      refine done_ (done_of HT_.out (by kernel_rfl)) ?_
      go_wp2
      refine bodyPost_ret (results_tmp3 rfl _ _ _) rfl ?_
      exact ⟨_, _, rfl, HO.out, Kd.S_nil _ _ _ _ _, HB.out⟩
    · rw [if_neg (by omega)] at H
      obtain ⟨⟨root, L'⟩, hA3, H⟩ := Option.bind_eq_some_iff.mp H
      by_cases hrl : root.length < 140737488355328
      case neg => rw [if_neg hrl] at H; cases H
      rw [if_pos hrl] at H
      simp only [Option.some.injEq, Prod.mk.injEq] at H
      obtain ⟨rfl, rfl, rfl⟩ := H
      obtain ⟨en, hen, HEN⟩ : ∃ en : Nat, a1_1 = (en : Int) ∧ Aside0 (a1_1.toNat = en) := ⟨a1_1.toNat, by have := HSZ.out; omega, ⟨rfl⟩⟩
      rw [HEN.out] at hA3
      have HT := Aside0.mk (Kd.F_mono (ok' := okA br s (.slice none 0 0)) (Kd.S_F (Kd.S_types (Kd.S_types HO9.out BR.out (by decide)) BS.out (by decide))) (fun k hk => ⟨hk.1.2, hk.2, by simp [Value.ownBlock]⟩))
      have HCL := Aside0.mk (Kd.S_reads' HO9.out).2.1
      have hbr0 : w11.heap[br]? = some (.cells (rngCells bf 0 (en : Int) (.slice A9 t.length c9)) 167 (0, 0)) := by rw [← hen]; exact BR.out
      refine (compact_Range_GetRootHash.calls k a0_0 a0_1 a0_2 a0_3 a0_4 a0_5 bf br s en 72 hv72 c9 A9 (t.length - 1) t root (.slice none 0 0) [] L' w11 hgr (by have := HSZ.out; omega) (by omega) HSZ.out.2.2.2.1 (by simp) hA3 BF.out hbr0 HT.out HCL.out ⟨BS.out, Kd.S_nil _ _ _ _ _⟩ (by have := Z11.out; omega) (by have := Z11.out; omega)).mono ?_
      rintro e6 w12 ⟨A12, c12, vs12, rfl, hc12, hC12, hS12, hK12⟩
      have HS := Aside0.mk hS12
      have HRC := Aside0.mk (And.intro hc12 hC12)
      have HB1 := Aside0.mk (HB.out.trans (KeptB.to_below hK12 (B := w.heap.size) (fun k hk => by
        rcases hk with h | h
        · have := Z11.out; have := HB.out.size; omega
        · simp [Value.ownBlock] at h) HB.out.size))
      clear hS12 hc12 hC12 hK12 HB hA3 hbr0
      have HB := HB1
      clear HB1
      go_wp2
      have HS1 := Aside0.mk (Seen.mk (blk_drew HS.out.cell) (Kd.S_drew HS.out.row))
      have HB1 := Aside0.mk (below_drew1 HB.out)
      have HRC1 := Aside0.mk (And.intro HRC.out.1 (Kd.C_drew HRC.out.2))
      clear HS HB HRC
      have HS := HS1
      have HB := HB1
      have HRC := HRC1
      clear HS1 HB1 HRC1
      refine start_ (n := 6) (S := fun w' => w'.cell? ⟨s, 0, none⟩ = some vs12) (ds := []) #[false, false, false, false, false, false] (by kernel_rfl) rfl rfl ((blk_cell HS.out.cell 0).trans rfl) (fun hHeld => ?_)
      refine with_tabW impl_RootHash.tab9 impl_RootHash.bits9 (fun HT_ HW_ => ?_)
      generalize w12.drew = w13 at HS HB HRC hHeld ⊢
      refine pure_ (i := 0) (N := (some 39)) (v := ?_) (a' := ?_) #[true, false, false, false, false, false] rfl rfl (any_of HT_.out (by kernel_rfl)) (fun _ _ _ h => h) (Or.inl ⟨by rfl, ?_⟩) ?_ ?_
      rotate_left
      · intro w'
        go_simp
        with_reducible rfl
      rotate_left
      · simp only [Act.put, List.setIfInBounds_toArray, List.set_cons_zero, List.set_cons_succ, i64_w, i32_w]
        rfl
      refine take_ (i := 2) (N := (some 41)) (v := ?_) (a' := ?_) #[true, false, true, false, false, false] rfl rfl (take_ofW HT_.out HW_.out (by kernel_rfl)) (fun _ _ _ h => h) (Or.inl ⟨by rfl, ?_⟩) hHeld ?_ ?_
      rotate_left
      · intro w' s0
        go_simp
        with_reducible rfl
      rotate_left
      · simp only [Act.put, List.setIfInBounds_toArray, List.set_cons_zero, List.set_cons_succ, i64_w, i32_w]
        rfl
      refine one_ (i := 1) (N := (some 40)) #[true, true, true, false, false, false] rfl rfl (one_of HT_.out (by kernel_rfl)) (by decide) (fun K hK => ?_)
      refine Kd.R_append_rows_step (Kd.int .u8) (w0 := w) w.heap.size (by rfl) (.const (.slice none 0 0)) (.tmp 39) 42 5 (.int .u8 0) 1 rfl Tryd.underlying42 info5 rfl (by decide) (by omega) (.slice none 0 0) ([] : List Int) root _ _ _ (fun _ => True) (fun _ => False) rfl rfl (Kd.R_nil _ _ _ _ _) HRC.out.2 (fun _ _ h => h) (fun _ h => h.elim) (fun _ _ => trivial) HB.out HB.out.size (by simp; omega) ?_
      intro v10 w10 ho hb hg hat
      rw [List.nil_append] at ho
      have HO := Aside0.mk ho
      have HS1 := Aside0.mk (Seen.mk (blk_grown HS.out.cell hg (by simp [Value.ownBlock])) (Kd.S_grown HS.out.row hg (fun _ _ => by simp [Value.ownBlock])))
      have HB1 := Aside0.mk hb
      clear ho hb hg hat HS HB
      have HS := HS1
      have HB := HB1
      clear HS1 HB1
      refine hK.out _ _ ((blk_cell HS.out.cell 0).trans rfl) (fun hHeld => ?_)
      clear hK K
      refine norm_ (a' := ?_) ?_ ?_
      rotate_left
      · show Act.put _ (some 40) _ = _
        simp only [Act.put, List.setIfInBounds_toArray, List.set_cons_zero, List.set_cons_succ, i64_w, i32_w]
        rfl
      refine pure_ (i := 3) (N := (some 4)) (v := ?_) (a' := ?_) #[true, true, true, true, false, false] rfl rfl (any_of HT_.out (by kernel_rfl)) (fun _ _ _ h => h) (Or.inl ⟨by rfl, ?_⟩) ?_ ?_
      rotate_left
      · intro w'
        go_simp
        with_reducible rfl
      rotate_left
      · simp only [Act.put, List.setIfInBounds_toArray, List.set_cons_zero, List.set_cons_succ, i64_w, i32_w]
        rfl
      refine pure_ (i := 4) (N := (some 5)) (v := ?_) (a' := ?_) #[true, true, true, true, true, false] rfl rfl (any_of HT_.out (by kernel_rfl)) (fun _ _ _ h => h) (Or.inl ⟨by rfl, ?_⟩) ?_ ?_
      rotate_left
      · intro w'
        go_simp
        with_reducible rfl
      rotate_left
      · simp only [Act.put, List.setIfInBounds_toArray, List.set_cons_zero, List.set_cons_succ, i64_w, i32_w]
        rfl
      refine pure_ (i := 5) (N := (some 6)) (v := ?_) (a' := ?_) #[true, true, true, true, true, true] rfl rfl (any_of HT_.out (by kernel_rfl)) (fun _ _ _ h => h) (Or.inl ⟨by rfl, ?_⟩) ?_ ?_
      rotate_left
      · intro w'
        go_simp
        with_reducible rfl
      rotate_left
      · simp only [Act.put, List.setIfInBounds_toArray, List.set_cons_zero, List.set_cons_succ, i64_w, i32_w]
        rfl
      refine done_ (done_of HT_.out (by kernel_rfl)) ?_
      go_wp2
      refine bodyPost_ret (results_tmp3 rfl _ _ _) rfl ?_
      exact ⟨_, _, rfl, HO.out, Kd.S_mono (Kd.S_lower HS.out.row (by have := Z11.out; have := HB.out.size; omega)) (fun _ _ => trivial), HB.out⟩
  · have H := HH.out
    rw [if_neg hb0] at H
    simp only [Option.some.injEq, Prod.mk.injEq] at H
    obtain ⟨rfl, rfl, rfl⟩ := H
    refine (compact_Range_GetRootHash.callsE bf br 72 s a1_0 a1_1 _ hb0 w11 BR.out).mono ?_
    rintro e6 w12 ⟨q, v1, v2, rfl, hb⟩
    simp only [errW_some]
    have HB1 := Aside0.mk (below_step HB.out hb)
    clear hb HB
    have HB := HB1
    clear HB1
    go_wp2
    refine bodyPost_ret (results_tmp3 rfl _ _ _) rfl ?_
    exact ⟨_, _, rfl, Kd.R_nil _ _ _ _ _, Kd.S_nil _ _ _ _ _, HB.out⟩
def spec_Leaves.f (a0_0 : Int) (a0_1 : Int) : Option (Int × Int) := if 0 ≤ a0_0 then (some (shl .u64 a0_1 a0_0, shl .u64 (IntKind.u64.wrap (a0_1 + 1)) a0_0)) else (none)
set_option maxHeartbeats 8000000 in
set_option maxRecDepth 100000 in
theorem spec_Leaves.calls (a0_0 : Int) (a0_1 : Int) (r1 : Int) (r2 : Int) (w : World) (h : spec_Leaves.f a0_0 a0_1 = some (r1, r2)) :
    Calls Tryd.prog 41 #[.agg #[.int .u64 a0_0, .int .u64 a0_1]] w fun e w' => e = .returned (.agg #[.int .u64 r1, .int .u64 r2]) ∧ Below w.heap.size w w' := by
  have hu70 := Tryd.underlying70
  have hu34 := Tryd.underlying34
  have HB := Aside0.mk (Below.refl w.heap.size w)
  have H : (if 0 ≤ a0_0 then (some (shl .u64 a0_1 a0_0, shl .u64 (IntKind.u64.wrap (a0_1 + 1)) a0_0)) else (none)) = some (r1, r2) := h
  clear h
  by_cases c2 : 0 ≤ a0_0
  · rw [if_pos c2] at H
    have c2b0 := eq_true c2
    have c2b1 : decide (0 ≤ a0_0) = true := decide_eq_true c2
    clear c2
    obtain ⟨ji3, hji3⟩ : ∃ j_ : Int, (shl .u64 a0_1 a0_0) = j_ := ⟨_, rfl⟩
    replace H : (some (ji3, shl .u64 (IntKind.u64.wrap (a0_1 + 1)) a0_0)) = some (r1, r2) := by first | (rw [hji3] at H; exact H) | (simp only [hji3] at H ⊢; exact H)
    have hji3_ : (IntKind.u64.wrap (a0_1 * 2 ^ min a0_0.toNat 64)) = ji3 := hji3
    have hji3z : a0_0 ≤ 64 → (IntKind.u64.wrap (a0_1 * 2 ^ a0_0.toNat)) = ji3 := shl_small hji3
    have c4b0 := eq_true (of_decide_eq_true (by first | (with_reducible assumption) | assumption) : 0 ≤ a0_0)
    obtain ⟨ji5, hji5⟩ : ∃ j_ : Int, (shl .u64 (IntKind.u64.wrap (a0_1 + 1)) a0_0) = j_ := ⟨_, rfl⟩
    replace H : (some (ji3, ji5)) = some (r1, r2) := by first | (rw [hji5] at H; exact H) | (simp only [hji5] at H ⊢; exact H)
    have hji5_ : (IntKind.u64.wrap ((IntKind.u64.wrap (a0_1 + 1)) * 2 ^ min a0_0.toNat 64)) = ji5 := hji5
    have hji5z : a0_0 ≤ 64 → (IntKind.u64.wrap ((IntKind.u64.wrap (a0_1 + 1)) * 2 ^ a0_0.toNat)) = ji5 := shl_small hji5
    simp only [Option.some.injEq, Prod.mk.injEq] at H
    obtain ⟨rfl, rfl⟩ := H
    go_enter Tryd.func41, Tryd.ntmps41
    go_wp2_with (first | ((with_reducible refine gate_dst (N := 1) rfl ?_); refine box_event ?hg (N := 1) ?hd (cs := #[.int .u64 a0_0, .int .u64 a0_1]) (t := 70) ?hr ?_; (case hd => rfl); (case hg => rfl); (case hr => first | (go_simp; done) | (go_simp; rfl)); intro gb170 hg w6 hbox hb; have n0_ := Aside0.mk (below_step (by repeat (first | (with_reducible first | exact HB.out | apply below_alloc | apply pw_below_drewN | apply below_drew1) | exact HB.out)) hb); have n1_ := Aside0.mk (hbox); have n2_ := Aside0.mk ((by rw [hg]; exact (below_size (by repeat (first | (with_reducible first | exact HB.out | apply below_alloc | apply pw_below_drewN | apply below_drew1) | exact HB.out))) : w.heap.size ≤ gb170)); have n3_ := Aside0.mk ((by rw [hg]; exact (below_size (by repeat (first | (with_reducible first | exact HB.out | apply below_alloc | apply pw_below_drewN | apply below_drew1) | exact HB.out))) : w.heap.size ≤ gb170)); clear HB; have HB := n0_; have BK170 := n1_; have GW170 := n2_; have GE170 := n3_; clear n0_ n1_ n2_ n3_; clear hb hbox hg) | ((with_reducible refine gate_dst (N := 2) rfl ?_); refine box_event ?hg (N := 2) ?hd (cs := #[.int .u64 0, .int .u64 0]) (t := 34) ?hr ?_; (case hd => rfl); (case hg => rfl); (case hr => first | (go_simp; done) | (go_simp; rfl)); intro gb171 hg w7 hbox hb; have n0_ := Aside0.mk (blk_below (g := gb170) (o := .cells #[.int .u64 a0_0, .int .u64 a0_1] 70 (0, 0)) (by (with_reducible repeat (first | refine blk_drewN ?_ _ | refine blk_drew ?_ | refine blk_alloc ?_ _)); exact BK170.out) hb); have n1_ := Aside0.mk (below_step (by repeat (first | (with_reducible first | exact HB.out | apply below_alloc | apply pw_below_drewN | apply below_drew1 | refine below_set ?_ GE170.out) | exact HB.out)) hb); have n2_ := Aside0.mk (hbox); have n3_ := Aside0.mk ((by rw [hg]; exact (below_size (by repeat (first | (with_reducible first | exact HB.out | apply below_alloc | apply pw_below_drewN | apply below_drew1 | refine below_set ?_ GE170.out) | exact HB.out))) : w.heap.size ≤ gb171)); have n4_ := Aside0.mk ((by rw [hg]; exact (below_size (by repeat (first | (with_reducible first | exact HB.out | apply below_alloc | apply pw_below_drewN | apply below_drew1 | refine below_set ?_ GE170.out) | exact HB.out))) : w.heap.size ≤ gb171)); have n5_ := Aside0.mk ((by rw [hg]; exact Nat.ne_of_lt (blk_lt (g := gb170) (o := .cells #[.int .u64 a0_0, .int .u64 a0_1] 70 (0, 0)) (by (with_reducible repeat (first | refine blk_drewN ?_ _ | refine blk_drew ?_ | refine blk_alloc ?_ _)); exact BK170.out)) : gb170 ≠ gb171)); have n6_ := Aside0.mk ((by rw [hg]; exact Nat.ne_of_gt (blk_lt (g := gb170) (o := .cells #[.int .u64 a0_0, .int .u64 a0_1] 70 (0, 0)) (by (with_reducible repeat (first | refine blk_drewN ?_ _ | refine blk_drew ?_ | refine blk_alloc ?_ _)); exact BK170.out)) : gb171 ≠ gb170)); clear BK170; clear HB; have BK170 := n0_; have HB := n1_; have BK171 := n2_; have GW171 := n3_; have GE171 := n4_; have NB170_171 := n5_; have NB171_170 := n6_; clear n0_ n1_ n2_ n3_ n4_ n5_ n6_; clear hb hbox hg; have hnb8 := NB170_171.out; have hnc8 := NB171_170.out; have hcz9_0 : w7.cell? ⟨gb170, 0, none⟩ = some (.int .u64 a0_0) := (blk_cell BK170.out 0).trans rfl; have hcz9_1 : w7.cell? ⟨gb170, 1, none⟩ = some (.int .u64 a0_1) := (blk_cell BK170.out 1).trans rfl; have hfz9_0 := blk_frozen BK170.out 0; have hfz9_1 := blk_frozen BK170.out 1; have hcz10_0 : w7.cell? ⟨gb171, 0, none⟩ = some (.int .u64 0) := (blk_cell BK171.out 0).trans rfl; have hcz10_1 : w7.cell? ⟨gb171, 1, none⟩ = some (.int .u64 0) := (blk_cell BK171.out 1).trans rfl; have hfz10_0 := blk_frozen BK171.out 0; have hfz10_1 := blk_frozen BK171.out 1))
    refine bodyPost_ret (results_cell_row rfl _ _ gb171 34 #[.int .u64 ji3, .int .u64 ji5] (0, 0) _ rfl (by (with_reducible repeat (first | refine blk_drewN ?_ _ | refine blk_drew ?_ | refine blk_alloc ?_ _)); refine blk_put (cs := #[.int .u64 ji3, .int .u64 0]) ?_ 1 _ rfl; (with_reducible repeat (first | refine blk_drewN ?_ _ | refine blk_drew ?_ | refine blk_alloc ?_ _)); refine blk_put (cs := #[.int .u64 0, .int .u64 0]) ?_ 0 _ rfl; (with_reducible repeat (first | refine blk_drewN ?_ _ | refine blk_drew ?_ | refine blk_alloc ?_ _)); exact BK171.out) Tryd.underlying34 rfl (by kernel_rfl)) rfl ?_
    exact ⟨by first | rfl | (simp [errW_none, errW_some] <;> rfl) | (simp only [← hji3, ← hji5]; first | rfl | (simp [errW_none, errW_some] <;> rfl)) | (simp [*, errW_none, errW_some] <;> rfl), by repeat (first | (with_reducible first | exact HB.out | apply below_alloc | apply pw_below_drewN | apply below_drew1 | refine below_set ?_ GE170.out | refine below_set ?_ GE171.out) | exact HB.out)⟩
  · rw [if_neg c2] at H
    exact absurd H (by simp)
def spec_Named.l0 : Nat → List (S88) → List (S70) → Int → Int → Int → Int → List (List Int) → Option ((List (S88)))
  | 0, _, _, _, _, _, _, _ => none
  | k + 1, x3, x11, x12, x13, x173000, x173001, x173002 => if x13 < x12 then (if 0 ≤ x13 then (if x13 < (x11.length : Int) then (if x13 < (x173002.length : Int) then (if x3.length < 3518437208883 then (spec_Named.l0 k (x3 ++ [(⟨(⟨(rd_T70 x11 x13).f0, (rd_T70 x11 x13).f1⟩ : S70), rd_L1 x173002 x13⟩ : S88)]) x11 x12 (wrap64 (x13 + 1)) x173000 x173001 x173002) else (none)) else (none)) else (none)) else (none)) else (some x3)
def spec_Named.f (k : Nat) (a0_0 : Int) (a0_1 : Int) (l0_2 : List (List Int)) : Option ((List (S88))) := (spec_Nodes.f k a0_0 a0_1).bind fun t173 => (spec_Named.l0 k ([] : List (S88)) t173 (t173.length : Int) 0 a0_0 a0_1 l0_2)
theorem spec_Named.mono_l : ∀ k, (∀ y0 y1 y2 y3 y4 y5 y6, LeO (spec_Named.l0 k y0 y1 y2 y3 y4 y5 y6) (spec_Named.l0 (k + 1) y0 y1 y2 y3 y4 y5 y6))
  | 0 => fun _ _ _ _ _ _ _ r h => by simp [spec_Named.l0] at h
  | k + 1 => by
    have ih0 := spec_Named.mono_l k
    · intro y0 y1 y2 y3 y4 y5 y6
      unfold spec_Named.l0
      repeat' first
      | (with_reducible exact ih0 _ _ _ _ _ _ _)
      | (with_reducible exact spec_Nodes.mono _ _ _)
      | (with_reducible exact LeO.refl _)
      | (with_reducible exact LeO.none _)
      | (with_reducible refine LeO.ite ?_ ?_)
      | (with_reducible refine LeO.bind ?_ (fun _ => ?_))
      | exact ih0 _ _ _ _ _ _ _
      | exact spec_Nodes.mono _ _ _
      | exact LeO.none _
      | refine LeO.ite ?_ ?_
      | refine LeO.bind ?_ (fun _ => ?_)
theorem spec_Named.mono : ∀ a0 a1 a2 k, LeO (spec_Named.f k a0 a1 a2) (spec_Named.f (k + 1) a0 a1 a2) := by
  intro a0 a1 a2 k
  have ih0 := spec_Named.mono_l k
  unfold spec_Named.f
  repeat' first
      | (with_reducible exact ih0 _ _ _ _ _ _ _)
      | (with_reducible exact spec_Nodes.mono _ _ _)
      | (with_reducible exact LeO.refl _)
      | (with_reducible exact LeO.none _)
      | (with_reducible refine LeO.ite ?_ ?_)
      | (with_reducible refine LeO.bind ?_ (fun _ => ?_))
      | exact ih0 _ _ _ _ _ _ _
      | exact spec_Nodes.mono _ _ _
      | exact LeO.none _
      | refine LeO.ite ?_ ?_
      | refine LeO.bind ?_ (fun _ => ?_)
def spec_Named.T5 : Bool × List (List Nat × List Nat) := (true, [([], []), ([], []), ([], []), ([2], [2]), ([], []), ([3, 4], [3, 4]), ([5], [5]), ([1, 6], [1, 6]), ([7], [7]), ([0, 8], [0, 8]), ([9, 9, 0, 1, 2, 3, 4, 5, 6, 7, 8, 9], [0, 9])])
def spec_Named.B5 : List Nat := [0, 0, 0, 4, 0, 28, 60, 126, 254, 511, 1023]
theorem spec_Named.tab5 : rtab .any (opsOf Tryd.f74 5) = spec_Named.T5 := by kernel_rfl
theorem spec_Named.bits5 : waitsOk spec_Named.T5.2 spec_Named.B5 = true := by kernel_rfl
set_option maxHeartbeats 8000000 in
set_option maxRecDepth 100000 in
theorem spec_Named.calls (k : Nat) (a0_0 : Int) (a0_1 : Int) (P0_2_ : Nat → Prop) (A0_2 : Option Addr) (c0_2 : Nat) (l0_2 : List (List Int)) (r : List (S88)) (w : World) (hs0_2 : Kd.V (Kd.slice 5 (Kd.int .u8)) 42 w w.heap.size (fun k_ => P0_2_ k_) (.slice A0_2 l0_2.length c0_2) l0_2) (h : spec_Named.f k a0_0 a0_1 l0_2 = some r) :
    Calls Tryd.prog 74 #[.agg #[.int .u64 a0_0, .int .u64 a0_1, .slice A0_2 l0_2.length c0_2]] w fun e w' => ∃ v0_ : Value, e = .returned (v0_) ∧ Kd.N k88 88 w' w.heap.size (fun k_ => (P0_2_ k_ ∨ w.heap.size ≤ k_)) v0_ r ∧ Below w.heap.size w w' := by
  have hu40 := Tryd.underlying40
  have hu34 := Tryd.underlying34
  have hu70 := Tryd.underlying70
  have hu88 := Tryd.underlying88
  have HO0_2 := Aside0.mk (show Kd.V (Kd.slice 5 (Kd.int .u8)) 42 w w.heap.size (fun k_ => (P0_2_ k_ ∨ w.heap.size ≤ k_)) (.slice A0_2 l0_2.length c0_2) l0_2 from Kd.V_mono hs0_2 (fun k_ hk => .inl hk))
  have HB := Aside0.mk (Below.refl w.heap.size w)
  have H : ((spec_Nodes.f k a0_0 a0_1).bind fun t173 => (spec_Named.l0 k ([] : List (S88)) t173 (t173.length : Int) 0 a0_0 a0_1 l0_2)) = some r := h
  clear h
  replace H := Option.bind_eq_some_iff.mp H
  obtain ⟨t173, A20, H⟩ := H
  replace H : (spec_Named.l0 k ([] : List (S88)) t173 (t173.length : Int) 0 a0_0 a0_1 l0_2) = some r := H
  have A2 := Aside0.mk A20
  clear A20
  have H' := Aside0.mk H
  clear H
  go_enter Tryd.func74, Tryd.ntmps74
  go_wp2_with (first | ((with_reducible refine gate_dst (N := 1) rfl ?_); refine box_event ?hg (N := 1) ?hd (cs := #[.int .u64 a0_0, .int .u64 a0_1, .slice A0_2 l0_2.length c0_2]) (t := 40) ?hr ?_; (case hd => rfl); (case hg => rfl); (case hr => first | (go_simp; done) | (go_simp; rfl)); intro gb172 hg w3 hbox hb; have n0_ := Aside0.mk (Kd.V_below (Kd.V_elderB (by (with_reducible repeat (first | apply Kd.V_alloc | apply Kd.V_drewN | apply Kd.V_drew)); exact HO0_2.out) gb172 (Nat.le_of_eq hg.symm)) hb); have n1_ := Aside0.mk (below_step (by repeat (first | (with_reducible first | exact HB.out | apply below_alloc | apply pw_below_drewN | apply below_drew1) | exact HB.out)) hb); have n2_ := Aside0.mk (hbox); have n3_ := Aside0.mk ((by rw [hg]; exact (below_size (by repeat (first | (with_reducible first | exact HB.out | apply below_alloc | apply pw_below_drewN | apply below_drew1) | exact HB.out))) : w.heap.size ≤ gb172)); have n4_ := Aside0.mk ((by rw [hg]; exact (below_size (by repeat (first | (with_reducible first | exact HB.out | apply below_alloc | apply pw_below_drewN | apply below_drew1) | exact HB.out))) : w.heap.size ≤ gb172)); clear HO0_2; clear HB; have HO0_2 := n0_; have HB := n1_; have BK172 := n2_; have GW172 := n3_; have GE172 := n4_; clear n0_ n1_ n2_ n3_ n4_; clear hb hbox hg; have hcz4_0 : w3.cell? ⟨gb172, 0, none⟩ = some (.int .u64 a0_0) := (blk_cell BK172.out 0).trans rfl; have hcz4_1 : w3.cell? ⟨gb172, 1, none⟩ = some (.int .u64 a0_1) := (blk_cell BK172.out 1).trans rfl; have hcz4_2 : w3.cell? ⟨gb172, 2, none⟩ = some (.slice A0_2 l0_2.length c0_2) := (blk_cell BK172.out 2).trans rfl; have hfz4_0 := blk_frozen BK172.out 0; have hfz4_1 := blk_frozen BK172.out 1; have hfz4_2 := blk_frozen BK172.out 2) | ((with_reducible refine gate_callee (f := 20) rfl ?_); refine goesL_ (some 11) rfl rfl Tryd.func20 (by kernel_rfl) rfl #[.agg #[.int .u64 a0_0, .int .u64 a0_1]] rfl (by (try simp only [List.map_toArray, List.map_cons, List.map_nil]); first | done | rfl | (simp only [List.length_drop, List.length_take]; rfl)) ?_; (with_reducible refine (spec_Nodes.calls k a0_0 a0_1 t173 _ A2.out).mono ?_); rintro e w5 ⟨v174, rfl, ho0, hb⟩; refine ⟨_, rfl, ?_⟩; have n0_ := Aside0.mk (Kd.V_elder' (by (with_reducible repeat (first | apply Kd.V_alloc | apply Kd.V_drewN | apply Kd.V_drew)); exact HO0_2.out) (Kd.R_base ho0) hb); have n1_ := Aside0.mk (Kd.R_lower (Kd.R_newM (M := fun k_ => (w.heap.size ≤ k_)) ho0 (below_size (by repeat (first | (with_reducible first | exact HB.out | apply below_alloc | apply pw_below_drewN | apply below_drew1 | refine below_set ?_ GE172.out) | exact HB.out))) (fun k_ h_ => h_)) (below_size (by repeat (first | (with_reducible first | exact HB.out | apply below_alloc | apply pw_below_drewN | apply below_drew1 | refine below_set ?_ GE172.out) | exact HB.out)))); have n2_ := Aside0.mk (blk_below (g := gb172) (o := .cells #[.int .u64 a0_0, .int .u64 a0_1, .slice A0_2 l0_2.length c0_2] 40 (0, 0)) (by (with_reducible repeat (first | refine blk_drewN ?_ _ | refine blk_drew ?_ | refine blk_alloc ?_ _)); exact BK172.out) hb); have n3_ := Aside0.mk (below_step (by repeat (first | (with_reducible first | exact HB.out | apply below_alloc | apply pw_below_drewN | apply below_drew1 | refine below_set ?_ GE172.out) | exact HB.out)) hb); clear HO0_2; clear BK172; clear HB; have HO0_2 := n0_; have HO175 := n1_; have BK172 := n2_; have HB := n3_; clear n0_ n1_ n2_ n3_; (try clear hb); (try clear hb2); (try clear hk); (try clear hi); (try clear ho0); obtain ⟨Ao6, co6, eo6⟩ := Kd.R_slice HO175.out; subst eo6))
  try simp only [Act.put, List.setIfInBounds_toArray, List.set_cons_zero, List.set_cons_succ]
  go_loopg [3, 13] k (fun kq v3 v13 w' => ∃ (x3_1 : List (S88)) (x13_1 : Int), v13 = .int .i64 x13_1 ∧ Aside0 (spec_Named.l0 kq x3_1 t173 (t173.length : Int) x13_1 a0_0 a0_1 l0_2 = some r) ∧ Aside0 (kq ≤ k) ∧ Aside0 (Kd.N k88 88 w' w.heap.size (fun k_ => (P0_2_ k_ ∨ w.heap.size ≤ k_) ∧ some k_ ≠ ((.slice Ao6 t173.length co6) : Value).ownBlock ∧ k_ ≠ gb172) v3 x3_1) ∧ Aside0 (Kd.R k70 70 w' w.heap.size (fun k_ => (w.heap.size ≤ k_)) (.slice Ao6 t173.length co6) t173) ∧ Aside0 (Kd.V (Kd.slice 5 (Kd.int .u8)) 42 w' w.heap.size (fun k_ => (P0_2_ k_ ∨ w.heap.size ≤ k_) ∧ some k_ ≠ (v3 : Value).ownBlock ∧ some k_ ≠ ((.slice Ao6 t173.length co6) : Value).ownBlock ∧ k_ ≠ gb172) (.slice A0_2 l0_2.length c0_2) l0_2) ∧ Aside0 (w'.heap[gb172]? = some (.cells #[.int .u64 a0_0, .int .u64 a0_1, (.slice A0_2 l0_2.length c0_2)] 40 (0, 0))) ∧ Aside0 (Below w.heap.size w w'))
  case atStart => exact ⟨(([] : List (S88))), (0), (by first | rfl | (simp; done) | (simp [*]; done)), H', ⟨Nat.le_refl _⟩, ⟨by first | exact Kd.S_nil _ _ _ _ _ | exact Kd.N_nil _ _ _ _ _ | exact Kd.V_nil _ _ _ _ _ | exact Kd.Q_nil _ _ _ _ _ | exact Kd.R_nil _ _ _ _ _⟩, ⟨by (with_reducible repeat (first | apply Kd.R_alloc | apply Kd.R_drewN | apply Kd.R_drew)); exact Kd.R_mono HO175.out (fun _ hk => hk.1)⟩, ⟨by (with_reducible repeat (first | apply Kd.V_alloc | apply Kd.V_drewN | apply Kd.V_drew)); exact Kd.V_mono HO0_2.out (fun _ hk => ⟨hk.1.1, ⟨(by simp [Value.ownBlock]), ⟨hk.2, hk.1.2⟩⟩⟩)⟩, ⟨by (with_reducible repeat (first | refine blk_drewN ?_ _ | refine blk_drew ?_ | refine blk_alloc ?_ _)); exact BK172.out⟩, ⟨by repeat (first | (with_reducible first | exact HB.out | apply below_alloc | apply pw_below_drewN | apply below_drew1 | refine below_set ?_ GE172.out) | exact HB.out)⟩⟩
  case round =>
    clear H'
    try clear c2
    try clear p2
    try clear hcz4_0
    try clear hcz4_1
    try clear hcz4_2
    try clear hfz4_0
    try clear hfz4_1
    try clear hfz4_2
    obtain ⟨x3_1, x13_1, rfl, HA, HK1, HO_3, HO_11, HO_173002, BK172, HB⟩ := hrel
    cases gk with
    | zero => exact absurd HA.out (by simp [spec_Named.l0])
    | succ k1 =>
      have H := HA.out
      clear HA
      simp only [spec_Named.l0] at H
      by_cases c7 : x13_1 < (t173.length : Int)
      · rw [if_pos c7] at H
        have c7b0 : decide (x13_1 < (t173.length : Int)) = true := decide_eq_true c7
        clear c7
        by_cases c8 : 0 ≤ x13_1
        · rw [if_pos c8] at H
          have c8b0 : decide (0 ≤ x13_1) = true := decide_eq_true c8
          clear c8
          by_cases c9 : x13_1 < (t173.length : Int)
          · rw [if_pos c9] at H
            have c9b0 : decide (x13_1 < (t173.length : Int)) = true := decide_eq_true c9
            clear c9
            by_cases c10 : x13_1 < (l0_2.length : Int)
            · rw [if_pos c10] at H
              have c10b0 : decide (x13_1 < (l0_2.length : Int)) = true := decide_eq_true c10
              clear c10
              by_cases c11 : x3_1.length < 3518437208883
              · rw [if_pos c11] at H
                have LMc11 := Aside0.mk c11
                clear c11
                obtain ⟨y179, hy179⟩ : ∃ y_ : List (S88), y_ = (x3_1 ++ [(⟨(⟨(rd_T70 t173 x13_1).f0, (rd_T70 t173 x13_1).f1⟩ : S70), rd_L1 l0_2 x13_1⟩ : S88)]) := ⟨_, rfl⟩
                replace H : (spec_Named.l0 k1 y179 t173 (t173.length : Int) (wrap64 (x13_1 + 1)) a0_0 a0_1 l0_2) = some r := by first | (rw [hy179]; with_reducible exact H) | (have H2_ := (Option.bind_some _ _).symm.trans H; rw [hy179]; with_reducible exact H2_) | (have H2_ := (Option.bind_some _ _).symm.trans H; with_reducible exact H2_) | with_reducible exact H | (rw [hy179]; exact H) | exact H
                have Ny179 := Aside0.mk hy179
                clear hy179
                have H' := Aside0.mk H
                clear H
                have p176 : 0 ≤ (x13_1 : Int) := of_decide_eq_true (by first | (with_reducible assumption) | assumption)
                have q176 : x13_1 < (t173.length : Int) := of_decide_eq_true (by first | (with_reducible assumption) | assumption)
                obtain ⟨ad176, e176, hx176_0, hx176_1⟩ := at_T70 (Kd.R_reads' HO_11.out).2.2 x13_1 p176 q176
                cases e176
                replace p176 := eq_true p176
                replace q176 := eq_true q176
                try go_wp2_with (first | ((with_reducible refine gate_dst (N := 5) rfl ?_); refine box_event ?hg (N := 5) ?hd (cs := #[.int .u64 0, .int .u64 0]) (t := 70) ?hr ?_; (case hd => rfl); (case hg => rfl); (case hr => first | (go_simp; done) | (go_simp; rfl)); intro gb177 hg w12 hbox hb; have n0_ := Aside0.mk (Kd.N_below (Kd.N_elderB (by (with_reducible repeat (first | apply Kd.N_alloc | apply Kd.N_drewN | apply Kd.N_drew)); exact HO_3.out) gb177 (Nat.le_of_eq hg.symm)) hb); have n1_ := Aside0.mk (Kd.R_below (Kd.R_elderB (by (with_reducible repeat (first | apply Kd.R_alloc | apply Kd.R_drewN | apply Kd.R_drew)); exact HO_11.out) gb177 (Nat.le_of_eq hg.symm)) hb); have n2_ := Aside0.mk (Kd.V_below (Kd.V_elderB (by (with_reducible repeat (first | apply Kd.V_alloc | apply Kd.V_drewN | apply Kd.V_drew)); exact HO_173002.out) gb177 (Nat.le_of_eq hg.symm)) hb); have n3_ := Aside0.mk (blk_below (g := gb172) (o := .cells #[.int .u64 a0_0, .int .u64 a0_1, .slice A0_2 l0_2.length c0_2] 40 (0, 0)) (by (with_reducible repeat (first | refine blk_drewN ?_ _ | refine blk_drew ?_ | refine blk_alloc ?_ _)); exact BK172.out) hb); have n4_ := Aside0.mk (below_step (by repeat (first | (with_reducible first | exact HB.out | apply below_alloc | apply pw_below_drewN | apply below_drew1 | refine below_set ?_ GE172.out) | exact HB.out)) hb); have n5_ := Aside0.mk (hbox); have n6_ := Aside0.mk ((by rw [hg]; exact (below_size (by repeat (first | (with_reducible first | exact HB.out | apply below_alloc | apply pw_below_drewN | apply below_drew1 | refine below_set ?_ GE172.out) | exact HB.out))) : w.heap.size ≤ gb177)); have n7_ := Aside0.mk ((by rw [hg]; exact (below_size (by repeat (first | (with_reducible first | exact HB.out | apply below_alloc | apply pw_below_drewN | apply below_drew1 | refine below_set ?_ GE172.out) | exact HB.out))) : w.heap.size ≤ gb177)); have n8_ := Aside0.mk ((by rw [hg]; exact Nat.ne_of_lt (blk_lt (g := gb172) (o := .cells #[.int .u64 a0_0, .int .u64 a0_1, .slice A0_2 l0_2.length c0_2] 40 (0, 0)) (by (with_reducible repeat (first | refine blk_drewN ?_ _ | refine blk_drew ?_ | refine blk_alloc ?_ _)); exact BK172.out)) : gb172 ≠ gb177)); have n9_ := Aside0.mk ((by rw [hg]; exact Nat.ne_of_gt (blk_lt (g := gb172) (o := .cells #[.int .u64 a0_0, .int .u64 a0_1, .slice A0_2 l0_2.length c0_2] 40 (0, 0)) (by (with_reducible repeat (first | refine blk_drewN ?_ _ | refine blk_drew ?_ | refine blk_alloc ?_ _)); exact BK172.out)) : gb177 ≠ gb172)); clear HO_3; clear HO_11; clear HO_173002; clear BK172; clear HB; have HO_3 := n0_; have HO_11 := n1_; have HO_173002 := n2_; have BK172 := n3_; have HB := n4_; have BK177 := n5_; have GW177 := n6_; have GE177 := n7_; have NB172_177 := n8_; have NB177_172 := n9_; clear n0_ n1_ n2_ n3_ n4_ n5_ n6_ n7_ n8_ n9_; clear hb hbox hg; have hnb13 := NB177_172.out; have hnc13 := NB172_177.out; have hcz14_0 : w12.cell? ⟨gb177, 0, none⟩ = some (.int .u64 0) := (blk_cell BK177.out 0).trans rfl; have hcz14_1 : w12.cell? ⟨gb177, 1, none⟩ = some (.int .u64 0) := (blk_cell BK177.out 1).trans rfl; have hfz14_0 := blk_frozen BK177.out 0; have hfz14_1 := blk_frozen BK177.out 1))
                have n0_ : Aside0 (Kd.N k88 88 ((w12.setCell ⟨gb177, 0, none⟩ (.int .u64 ((rd_T70 t173 x13_1).f0))).setCell ⟨gb177, 1, none⟩ (.int .u64 ((rd_T70 t173 x13_1).f1))) w.heap.size (fun k_ => (P0_2_ k_ ∨ w.heap.size ≤ k_) ∧ some k_ ≠ (.slice (some ad176) t173.length co6 : Value).ownBlock ∧ k_ ≠ gb172 ∧ k_ ≠ gb177) u3 x3_1) := ⟨by (with_reducible repeat (first | apply Kd.N_alloc | apply Kd.N_drewN | apply Kd.N_drew)); exact Kd.N_mono (Kd.N_far (p := ⟨gb177, 1, none⟩) (Kd.N_far (p := ⟨gb177, 0, none⟩) (Kd.N_mono HO_3.out (fun k_ hk => (⟨hk, hk.2⟩ : _ ∧ k_ ≠ gb177))) (fun _ hk => hk.2) (.int .u64 ((rd_T70 t173 x13_1).f0))) (fun _ hk => hk.2) (.int .u64 ((rd_T70 t173 x13_1).f1))) (fun _ hk => ⟨hk.1.1.1, ⟨hk.1.1.2.1, ⟨hk.1.1.2.2, hk.1.2⟩⟩⟩)⟩
                have n1_ : Aside0 (Kd.R k70 70 ((w12.setCell ⟨gb177, 0, none⟩ (.int .u64 ((rd_T70 t173 x13_1).f0))).setCell ⟨gb177, 1, none⟩ (.int .u64 ((rd_T70 t173 x13_1).f1))) w.heap.size (fun k_ => (w.heap.size ≤ k_) ∧ k_ ≠ gb177) (.slice (some ad176) t173.length co6) t173) := ⟨by (with_reducible repeat (first | apply Kd.R_alloc | apply Kd.R_drewN | apply Kd.R_drew)); exact Kd.R_mono (Kd.R_far (p := ⟨gb177, 1, none⟩) (Kd.R_far (p := ⟨gb177, 0, none⟩) (Kd.R_mono HO_11.out (fun k_ hk => (⟨hk, hk.2⟩ : _ ∧ k_ ≠ gb177))) (fun _ hk => hk.2) (.int .u64 ((rd_T70 t173 x13_1).f0))) (fun _ hk => hk.2) (.int .u64 ((rd_T70 t173 x13_1).f1))) (fun _ hk => ⟨hk.1.1, hk.1.2⟩)⟩
                have n2_ : Aside0 (Kd.V (Kd.slice 5 (Kd.int .u8)) 42 ((w12.setCell ⟨gb177, 0, none⟩ (.int .u64 ((rd_T70 t173 x13_1).f0))).setCell ⟨gb177, 1, none⟩ (.int .u64 ((rd_T70 t173 x13_1).f1))) w.heap.size (fun k_ => (P0_2_ k_ ∨ w.heap.size ≤ k_) ∧ some k_ ≠ (u3 : Value).ownBlock ∧ some k_ ≠ (.slice (some ad176) t173.length co6 : Value).ownBlock ∧ k_ ≠ gb172 ∧ k_ ≠ gb177) (.slice A0_2 l0_2.length c0_2) l0_2) := ⟨by (with_reducible repeat (first | apply Kd.V_alloc | apply Kd.V_drewN | apply Kd.V_drew)); exact Kd.V_mono (Kd.V_far (p := ⟨gb177, 1, none⟩) (Kd.V_far (p := ⟨gb177, 0, none⟩) (Kd.V_mono HO_173002.out (fun k_ hk => (⟨hk, hk.2⟩ : _ ∧ k_ ≠ gb177))) (fun _ hk => hk.2) (.int .u64 ((rd_T70 t173 x13_1).f0))) (fun _ hk => hk.2) (.int .u64 ((rd_T70 t173 x13_1).f1))) (fun _ hk => ⟨hk.1.1.1, ⟨hk.1.1.2.1, ⟨hk.1.1.2.2.1, ⟨hk.1.1.2.2.2, hk.1.2⟩⟩⟩⟩)⟩
                have n3_ : Aside0 (((w12.setCell ⟨gb177, 0, none⟩ (.int .u64 ((rd_T70 t173 x13_1).f0))).setCell ⟨gb177, 1, none⟩ (.int .u64 ((rd_T70 t173 x13_1).f1))).heap[gb172]? = some (.cells #[.int .u64 a0_0, .int .u64 a0_1, .slice A0_2 l0_2.length c0_2] 40 (0, 0))) := ⟨by (with_reducible repeat (first | refine blk_drewN ?_ _ | refine blk_drew ?_ | refine blk_alloc ?_ _)); refine blk_far ?_ NB172_177.out _; (with_reducible repeat (first | refine blk_drewN ?_ _ | refine blk_drew ?_ | refine blk_alloc ?_ _)); refine blk_far ?_ NB172_177.out _; (with_reducible repeat (first | refine blk_drewN ?_ _ | refine blk_drew ?_ | refine blk_alloc ?_ _)); exact BK172.out⟩
                have n4_ : Aside0 (((w12.setCell ⟨gb177, 0, none⟩ (.int .u64 ((rd_T70 t173 x13_1).f0))).setCell ⟨gb177, 1, none⟩ (.int .u64 ((rd_T70 t173 x13_1).f1))).heap[gb177]? = some (.cells #[.int .u64 ((rd_T70 t173 x13_1).f0), .int .u64 ((rd_T70 t173 x13_1).f1)] 70 (0, 0))) := ⟨by (with_reducible repeat (first | refine blk_drewN ?_ _ | refine blk_drew ?_ | refine blk_alloc ?_ _)); refine blk_put (cs := #[.int .u64 ((rd_T70 t173 x13_1).f0), .int .u64 0]) ?_ 1 _ rfl; (with_reducible repeat (first | refine blk_drewN ?_ _ | refine blk_drew ?_ | refine blk_alloc ?_ _)); refine blk_put (cs := #[.int .u64 0, .int .u64 0]) ?_ 0 _ rfl; (with_reducible repeat (first | refine blk_drewN ?_ _ | refine blk_drew ?_ | refine blk_alloc ?_ _)); exact BK177.out⟩
                have n5_ : Aside0 (Below w.heap.size w ((w12.setCell ⟨gb177, 0, none⟩ (.int .u64 ((rd_T70 t173 x13_1).f0))).setCell ⟨gb177, 1, none⟩ (.int .u64 ((rd_T70 t173 x13_1).f1)))) := ⟨by repeat (first | (with_reducible first | exact HB.out | apply below_alloc | apply pw_below_drewN | apply below_drew1 | refine below_set ?_ GE172.out | refine below_set ?_ GE177.out) | exact HB.out)⟩
                (try clear HO_3)
                (try clear HO_11)
                (try clear HO_173002)
                (try clear BK172)
                (try clear BK177)
                (try clear HB)
                generalize ((w12.setCell ⟨gb177, 0, none⟩ (.int .u64 ((rd_T70 t173 x13_1).f0))).setCell ⟨gb177, 1, none⟩ (.int .u64 ((rd_T70 t173 x13_1).f1))) = w15 at n0_ n1_ n2_ n3_ n4_ n5_ ⊢
                have HO_3 := n0_
                have HO_11 := n1_
                have HO_173002 := n2_
                have BK172 := n3_
                have BK177 := n4_
                have HB := n5_
                clear n0_ n1_ n2_ n3_ n4_ n5_
                have n0_ := Aside0.mk (Kd.N_drew HO_3.out)
                have n1_ := Aside0.mk (Kd.R_drew HO_11.out)
                have n2_ := Aside0.mk (Kd.V_drew HO_173002.out)
                have n3_ := Aside0.mk (blk_drew BK172.out)
                have n4_ := Aside0.mk (blk_drew BK177.out)
                have n5_ := Aside0.mk (below_drew1 HB.out)
                clear HO_3
                clear HO_11
                clear HO_173002
                clear BK172
                clear BK177
                clear HB
                have HO_3 := n0_
                have HO_11 := n1_
                have HO_173002 := n2_
                have BK172 := n3_
                have BK177 := n4_
                have HB := n5_
                clear n0_ n1_ n2_ n3_ n4_ n5_
                have p178 : 0 ≤ (x13_1 : Int) := of_decide_eq_true (by first | (with_reducible assumption) | assumption)
                have q178 : x13_1 < (l0_2.length : Int) := of_decide_eq_true (by first | (with_reducible assumption) | assumption)
                obtain ⟨ad178, A178_0, c178_0, e178, hx178_0, hl178_0, hi178_0⟩ := at_L1 (Kd.V_reads' HO_173002.out).2.2 x13_1 p178 q178
                cases e178
                obtain ⟨ce178, hce178, hMe178, hcc178⟩ := Kd.V_get HO_173002.out [] x13_1 p178 (by first | exact q178 | exact of_decide_eq_true (by first | (with_reducible assumption) | assumption) | (have e_ := (Kd.V_reads' HO_173002.out).1; omega))
                obtain ⟨ua178_0, uc178_0, rfl, ul178_0, ge178_0⟩ := Kd.FK_slice_open hMe178
                have hv178_0 := hcc178 0 _ rfl
                rw [Nat.add_zero, show ((Kd.slice 5 (Kd.int .u8))).sz = 1 from rfl, Nat.mul_one] at hv178_0
                replace hv178_0 := Option.some.inj (hv178_0.symm.trans hx178_0)
                injection hv178_0 with hva_ hvn_ hvc_
                rw [hva_] at ge178_0
                rw [hvc_] at ul178_0
                have HL178_0 := Aside0.mk (show Kd.V (Kd.int .u8) 5 _ w.heap.size _ _ (rd_L1 l0_2 x13_1) from Kd.V_mk ul178_0 ge178_0)
                clear hva_ hvn_ hvc_ ge178_0 ul178_0
                clear hcc178 hce178
                have HR178_0 := Aside0.mk hi178_0
                have HC178_0 := Aside0.mk hl178_0
                clear hi178_0 hl178_0
                replace p178 := eq_true p178
                replace q178 := eq_true q178
                refine start_ (n := 11) (S := fun w' => w'.cell? ⟨gb177, 0, none⟩ = some (.int .u64 ((rd_T70 t173 x13_1).f0)) ∧ w'.cell? ⟨gb177, 1, none⟩ = some (.int .u64 ((rd_T70 t173 x13_1).f1)) ∧ w'.cell? ⟨gb172, 0, none⟩ = some (.int .u64 a0_0) ∧ w'.cell? ⟨gb172, 1, none⟩ = some (.int .u64 a0_1) ∧ w'.cell? ⟨gb172, 2, none⟩ = some (.slice (some ad178) l0_2.length c0_2) ∧ w'.cell? (ad178.add (x13_1).toNat) = some (.slice A178_0 (rd_L1 l0_2 x13_1).length c178_0)) (ds := [8, 9]) #[false, false, false, false, false, false, false, false, false, false, false] (by kernel_rfl) rfl rfl ⟨(blk_cell BK177.out 0).trans rfl, (blk_cell BK177.out 1).trans rfl, (blk_cell BK172.out 0).trans rfl, (blk_cell BK172.out 1).trans rfl, (blk_cell BK172.out 2).trans rfl, hx178_0⟩ (fun hHeld => ?_); refine with_tabW spec_Named.tab5 spec_Named.bits5 (fun HT_ HW_ => ?_)
                generalize w15.drew = w16 at HO_3 HO_11 HO_173002 BK172 BK177 HB HL178_0 HR178_0 hx178_0 hHeld ⊢
                refine pure_ (i := 0) (N := some 18) (v := ?_) (a' := ?_) #[true, false, false, false, false, false, false, false, false, false, false] rfl rfl (any_of HT_.out (by kernel_rfl)) (fun _ _ _ h => h) (Or.inl ⟨by rfl, ?_⟩) ?_ ?_
                rotate_left
                · intro w'
                  go_simp
                  with_reducible rfl
                rotate_left
                · simp only [Act.put, List.setIfInBounds_toArray, List.set_cons_zero, List.set_cons_succ, i64_w, i32_w]
                  rfl
                refine pure_ (i := 2) (N := some 20) (v := ?_) (a' := ?_) #[true, false, true, false, false, false, false, false, false, false, false] rfl rfl (any_of HT_.out (by kernel_rfl)) (fun _ _ _ h => h) (Or.inl ⟨by rfl, ?_⟩) ?_ ?_
                rotate_left
                · intro w'
                  go_simp
                  with_reducible rfl
                rotate_left
                · simp only [Act.put, List.setIfInBounds_toArray, List.set_cons_zero, List.set_cons_succ, i64_w, i32_w]
                  rfl
                refine pure_ (i := 4) (N := some 22) (v := ?_) (a' := ?_) #[true, false, true, false, true, false, false, false, false, false, false] rfl rfl (any_of HT_.out (by kernel_rfl)) (fun _ _ _ h => h) (Or.inl ⟨by rfl, ?_⟩) ?_ ?_
                rotate_left
                · intro w'
                  go_simp
                  with_reducible rfl
                rotate_left
                · simp only [Act.put, List.setIfInBounds_toArray, List.set_cons_zero, List.set_cons_succ, i64_w, i32_w]
                  rfl
                refine take_ (i := 1) (N := some 19) (v := ?_) (a' := ?_) #[true, true, true, false, true, false, false, false, false, false, false] rfl rfl (take_ofW HT_.out HW_.out (by kernel_rfl)) (fun _ _ _ h => h) (Or.inl ⟨by rfl, ?_⟩) hHeld ?_ ?_
                rotate_left
                · rintro w' ⟨s0, s1, s2, s3, s4, s5⟩
                  go_simp
                  with_reducible rfl
                rotate_left
                · simp only [Act.put, List.setIfInBounds_toArray, List.set_cons_zero, List.set_cons_succ, i64_w, i32_w]
                  rfl
                refine take_ (i := 3) (N := some 21) (v := ?_) (a' := ?_) #[true, true, true, true, true, false, false, false, false, false, false] rfl rfl (take_ofW HT_.out HW_.out (by kernel_rfl)) (fun _ _ _ h => h) (Or.inl ⟨by rfl, ?_⟩) hHeld ?_ ?_
                rotate_left
                · rintro w' ⟨s0, s1, s2, s3, s4, s5⟩
                  go_simp
                  with_reducible rfl
                rotate_left
                · simp only [Act.put, List.setIfInBounds_toArray, List.set_cons_zero, List.set_cons_succ, i64_w, i32_w]
                  rfl
                refine pure_ (i := 5) (N := some 23) (v := ?_) (a' := ?_) #[true, true, true, true, true, true, false, false, false, false, false] rfl rfl (any_of HT_.out (by kernel_rfl)) (fun _ _ _ h => h) (Or.inl ⟨by rfl, ?_⟩) ?_ ?_
                rotate_left
                · intro w'
                  go_simp
                  with_reducible rfl
                rotate_left
                · simp only [Act.put, List.setIfInBounds_toArray, List.set_cons_zero, List.set_cons_succ, i64_w, i32_w]
                  rfl
                refine take_ (i := 6) (N := some 24) (v := ?_) (a' := ?_) #[true, true, true, true, true, true, true, false, false, false, false] rfl rfl (take_ofW HT_.out HW_.out (by kernel_rfl)) (fun _ _ _ h => h) (Or.inl ⟨by rfl, ?_⟩) hHeld ?_ ?_
                rotate_left
                · rintro w' ⟨s0, s1, s2, s3, s4, s5⟩
                  go_simp
                  with_reducible rfl
                rotate_left
                · simp only [Act.put, List.setIfInBounds_toArray, List.set_cons_zero, List.set_cons_succ, i64_w, i32_w]
                  rfl
                refine pure_ (i := 7) (N := some 25) (v := ?_) (a' := ?_) #[true, true, true, true, true, true, true, true, false, false, false] rfl rfl (any_of HT_.out (by kernel_rfl)) (fun _ _ _ h => h) (Or.inl ⟨by rfl, ?_⟩) ?_ ?_
                rotate_left
                · intro w'
                  go_simp
                  with_reducible rfl
                rotate_left
                · simp only [Act.put, List.setIfInBounds_toArray, List.set_cons_zero, List.set_cons_succ, i64_w, i32_w]
                  rfl
                refine last_ (i := 8) (N := some 26) #[true, true, true, true, true, true, true, true, true, false, false] rfl rfl (one_of HT_.out (by kernel_rfl)) (by decide) (fun K hK => ?_)
                refine value_ (w1 := ?_) (v := ?_) (by rfl) rfl ?_ ?_
                rotate_left 2
                · go_simp
                  constructor
                  · rfl
                  · rfl
                refine hK.out _ _ ?_
                clear hK K
                refine norm_ (a' := ?_) ?_ ?_
                rotate_left
                · show Act.put _ (some 26) _ = _
                  simp only [Act.put, List.setIfInBounds_toArray, List.set_cons_zero, List.set_cons_succ, i64_w, i32_w]
                  rfl
                refine last_ (i := 9) (N := some 27) #[true, true, true, true, true, true, true, true, true, true, false] rfl rfl (one_of HT_.out (by kernel_rfl)) (by decide) (fun K hK => ?_)
                refine Kd.N_append_step k88 (w0 := w) w.heap.size (by rfl) (.tmp 18) (.tmp 26) 43 88 (.agg #[(.int .u64 0), (.int .u64 0), (.slice none 0 0)]) 40 rfl Tryd.underlying43 info88 rfl (by decide) (by omega) u3 x3_1 (⟨(⟨(rd_T70 t173 x13_1).f0, (rd_T70 t173 x13_1).f1⟩ : S70), rd_L1 l0_2 x13_1⟩ : S88) [.int .u64 ((rd_T70 t173 x13_1).f0), .int .u64 ((rd_T70 t173 x13_1).f1), .slice A178_0 (rd_L1 l0_2 x13_1).length c178_0] (fun k_ => (P0_2_ k_ ∨ w.heap.size ≤ k_) ∧ some k_ ≠ (.slice (some ad176) t173.length co6 : Value).ownBlock ∧ k_ ≠ gb172 ∧ k_ ≠ gb177) (fun k_ => ((fun k_ => (P0_2_ k_ ∨ w.heap.size ≤ k_) ∧ some k_ ≠ (.slice (some ad176) t173.length co6 : Value).ownBlock ∧ k_ ≠ gb172 ∧ k_ ≠ gb177)) k_ ∧ some k_ ≠ (u3 : Value).ownBlock) rfl rfl ?aP (fun _ hk => hk) ?aF ?aO ?aB ?aS ?aL ?_
                (case aP => exact (k88_mkF _ _ (⟨(⟨(rd_T70 t173 x13_1).f0, (rd_T70 t173 x13_1).f1⟩ : S70), rd_L1 l0_2 x13_1⟩ : S88) (Kd.V_reads' (Kd.V_mono (ok' := (fun k_ => ((fun k_ => (P0_2_ k_ ∨ w.heap.size ≤ k_) ∧ some k_ ≠ (.slice (some ad176) t173.length co6 : Value).ownBlock ∧ k_ ≠ gb172 ∧ k_ ≠ gb177)) k_ ∧ some k_ ≠ (u3 : Value).ownBlock)) (HL178_0.out) (fun k_ hk => ⟨⟨hk.1, ⟨hk.2.2.1, ⟨hk.2.2.2.1, hk.2.2.2.2⟩⟩⟩, hk.2.1⟩))).2.1 (Kd.V_F (Kd.V_mono (ok' := (fun k_ => ((fun k_ => (P0_2_ k_ ∨ w.heap.size ≤ k_) ∧ some k_ ≠ (.slice (some ad176) t173.length co6 : Value).ownBlock ∧ k_ ≠ gb172 ∧ k_ ≠ gb177)) k_ ∧ some k_ ≠ (u3 : Value).ownBlock)) (HL178_0.out) (fun k_ hk => ⟨⟨hk.1, ⟨hk.2.2.1, ⟨hk.2.2.2.1, hk.2.2.2.2⟩⟩⟩, hk.2.1⟩)))))
                (case aB => exact (by repeat (first | (with_reducible first | exact HB.out | apply below_alloc | apply pw_below_drewN | apply below_drew1 | refine below_set ?_ GE172.out | refine below_set ?_ GE177.out) | exact HB.out)))
                (case aF => exact (fun k_ hk => ⟨(.inr (Nat.le_trans (below_size (by repeat (first | (with_reducible first | exact HB.out | apply below_alloc | apply pw_below_drewN | apply below_drew1 | refine below_set ?_ GE172.out | refine below_set ?_ GE177.out) | exact HB.out))) hk)), Kd.fresh' (Kd.R_lt (by (with_reducible repeat (first | apply Kd.R_alloc | apply Kd.R_drewN | apply Kd.R_drew)); exact HO_11.out)) k_ hk, Kd.freshB (g := gb172) (o := .cells #[.int .u64 a0_0, .int .u64 a0_1, .slice (some ad178) l0_2.length c0_2] 40 (0, 0)) (by (with_reducible repeat (first | refine blk_drewN ?_ _ | refine blk_drew ?_ | refine blk_alloc ?_ _)); exact BK172.out) k_ hk, Kd.freshB (g := gb177) (o := .cells #[.int .u64 ((rd_T70 t173 x13_1).f0), .int .u64 ((rd_T70 t173 x13_1).f1)] 70 (0, 0)) (by (with_reducible repeat (first | refine blk_drewN ?_ _ | refine blk_drew ?_ | refine blk_alloc ?_ _)); exact BK177.out) k_ hk⟩))
                (case aO => exact (by (with_reducible repeat (first | apply Kd.N_alloc | apply Kd.N_drewN | apply Kd.N_drew)); exact HO_3.out))
                (case aS => exact (below_size (by repeat (first | (with_reducible first | exact HB.out | apply below_alloc | apply pw_below_drewN | apply below_drew1 | refine below_set ?_ GE172.out | refine below_set ?_ GE177.out) | exact HB.out))))
                (case aL => have := LMc11.out; omega)
                intro v180 w17 ho hb hg hat
                rw [← Ny179.out] at ho
                have n0_ := Aside0.mk (Kd.R_over' (by (with_reducible repeat (first | apply Kd.R_alloc | apply Kd.R_drewN | apply Kd.R_drew)); exact HO_11.out) (Kd.N_typed (by (with_reducible repeat (first | apply Kd.N_alloc | apply Kd.N_drewN | apply Kd.N_drew)); exact HO_3.out)) (by decide) hg)
                have n1_ := Aside0.mk (Kd.V_afterv (ok := (fun k_ => (P0_2_ k_ ∨ w.heap.size ≤ k_) ∧ some k_ ≠ (.slice (some ad176) t173.length co6 : Value).ownBlock ∧ k_ ≠ gb172 ∧ k_ ≠ gb177)) (by (with_reducible repeat (first | apply Kd.V_alloc | apply Kd.V_drewN | apply Kd.V_drew)); exact Kd.V_mono HO_173002.out (fun _ hk => ⟨⟨hk.1, ⟨hk.2.2.1, ⟨hk.2.2.2.1, hk.2.2.2.2⟩⟩⟩, hk.2.1⟩)) hg hat)
                have n2_ := Aside0.mk (blk_grown (g := gb172) (o := .cells #[.int .u64 a0_0, .int .u64 a0_1, .slice (some ad178) l0_2.length c0_2] 40 (0, 0)) (by (with_reducible repeat (first | refine blk_drewN ?_ _ | refine blk_drew ?_ | refine blk_alloc ?_ _)); exact BK172.out) hg (Kd.N_ne HO_3.out BK172.out (by decide)))
                have n3_ := Aside0.mk (blk_grown (g := gb177) (o := .cells #[.int .u64 ((rd_T70 t173 x13_1).f0), .int .u64 ((rd_T70 t173 x13_1).f1)] 70 (0, 0)) (by (with_reducible repeat (first | refine blk_drewN ?_ _ | refine blk_drew ?_ | refine blk_alloc ?_ _)); exact BK177.out) hg (Kd.N_ne HO_3.out BK177.out (by decide)))
                have n4_ := Aside0.mk (Kd.V_afterv (ok := (fun k_ => (P0_2_ k_ ∨ w.heap.size ≤ k_) ∧ some k_ ≠ (.slice (some ad176) t173.length co6 : Value).ownBlock ∧ k_ ≠ gb172 ∧ k_ ≠ gb177)) (by (with_reducible repeat (first | apply Kd.V_alloc | apply Kd.V_drewN | apply Kd.V_drew)); exact Kd.V_mono HL178_0.out (fun _ hk => ⟨⟨hk.1, ⟨hk.2.2.1, ⟨hk.2.2.2.1, hk.2.2.2.2⟩⟩⟩, hk.2.1⟩)) hg hat)
                have n5_ := Aside0.mk (hb)
                have n6_ := Aside0.mk (ho)
                clear HO_11
                clear HO_173002
                clear BK172
                clear BK177
                clear HL178_0
                clear HB
                clear HO_3
                have HO_11 := n0_
                have HO_173002 := n1_
                have BK172 := n2_
                have BK177 := n3_
                have HL178_0 := n4_
                have HB := n5_
                have HO181 := n6_
                clear n0_ n1_ n2_ n3_ n4_ n5_ n6_
                clear ho hb hg hat
                refine hK.out _ _ ?_
                clear hK K
                refine norm_ (a' := ?_) ?_ ?_
                rotate_left
                · show Act.put _ (some 27) _ = _
                  simp only [Act.put, List.setIfInBounds_toArray, List.set_cons_zero, List.set_cons_succ, i64_w, i32_w]
                  rfl
                refine pure_ (i := 10) (N := some 3) (v := ?_) (a' := ?_) #[true, true, true, true, true, true, true, true, true, true, true] rfl rfl (any_of HT_.out (by kernel_rfl)) (fun _ _ _ h => h) (Or.inl ⟨by rfl, ?_⟩) ?_ ?_
                rotate_left
                · intro w'
                  go_simp
                  with_reducible rfl
                rotate_left
                · simp only [Act.put, List.setIfInBounds_toArray, List.set_cons_zero, List.set_cons_succ, i64_w, i32_w]
                  rfl
                refine done_ (done_of HT_.out (by kernel_rfl)) ?_
                try go_wp2
                go_roundg k1
                case measure => have := HK1.out; omega
                case rel => exact ⟨(y179), (wrap64 (x13_1 + 1)), (by first | rfl | (simp; done) | (simp [*]; done)), H', ⟨by have := HK1.out; omega⟩, ⟨by (with_reducible repeat (first | apply Kd.N_alloc | apply Kd.N_drewN | apply Kd.N_drew)); exact Kd.N_mono HO181.out (fun _ hk => ⟨hk.1, ⟨hk.2.1, hk.2.2.1⟩⟩)⟩, ⟨by (with_reducible repeat (first | apply Kd.R_alloc | apply Kd.R_drewN | apply Kd.R_drew)); exact Kd.R_mono HO_11.out (fun _ hk => hk.1)⟩, ⟨by (with_reducible repeat (first | apply Kd.V_alloc | apply Kd.V_drewN | apply Kd.V_drew)); exact Kd.V_mono HO_173002.out (fun _ hk => ⟨hk.1.1, ⟨hk.2, ⟨hk.1.2.1, hk.1.2.2.1⟩⟩⟩)⟩, ⟨by (with_reducible repeat (first | refine blk_drewN ?_ _ | refine blk_drew ?_ | refine blk_alloc ?_ _)); exact BK172.out⟩, ⟨by repeat (first | (with_reducible first | exact HB.out | apply below_alloc | apply pw_below_drewN | apply below_drew1 | refine below_set ?_ GE172.out | refine below_set ?_ GE177.out) | exact HB.out)⟩⟩
              · rw [if_neg c11] at H
                exact absurd H (by simp)
            · rw [if_neg c10] at H
              exact absurd H (by simp)
          · rw [if_neg c9] at H
            exact absurd H (by simp)
        · rw [if_neg c8] at H
          exact absurd H (by simp)
      · rw [if_neg c7] at H
        have c7b0 : decide (x13_1 < (t173.length : Int)) = false := decide_eq_false c7
        clear c7
        obtain rfl := Option.some.inj H
        go_wp2
        go_ret
        exact ⟨_, by first | rfl | (simp [errW_none, errW_some] <;> rfl) | (simp [*, errW_none, errW_some] <;> rfl), by (with_reducible repeat (first | apply Kd.N_alloc | apply Kd.N_drewN | apply Kd.N_drew)); exact Kd.N_mono HO_3.out (fun _ hk => hk.1), by repeat (first | (with_reducible first | exact HB.out | apply below_alloc | apply pw_below_drewN | apply below_drew1 | refine below_set ?_ GE172.out) | exact HB.out)⟩
def spec_Terms.f (a0_0 : Int) (a0_1 : Int) (a0_2 : Int) (a0_3 : Int) (a0_4 : Int) (a0_5 : Int) : Option (Bool) := some (a0_0 != 1)
set_option maxHeartbeats 8000000 in
set_option maxRecDepth 100000 in
theorem spec_Terms.calls (a0_0 : Int) (a0_1 : Int) (a0_2 : Int) (a0_3 : Int) (a0_4 : Int) (a0_5 : Int) (r : Bool) (w : World) (h : spec_Terms.f a0_0 a0_1 a0_2 a0_3 a0_4 a0_5 = some r) :
    Calls Tryd.prog 77 #[.agg #[.int .i64 a0_0, .int .i64 a0_1, .int .i64 a0_2, .int .u64 a0_3, .int .u64 a0_4, .int .u64 a0_5]] w fun e w' => e = .returned (.bool r) ∧ Below w.heap.size w w' := by
  have hu37 := Tryd.underlying37
  have HB := Aside0.mk (Below.refl w.heap.size w)
  have H : (some (a0_0 != 1)) = some r := h
  clear h
  obtain rfl := Option.some.inj H
  go_enter Tryd.func77, Tryd.ntmps77
  go_wp2_with (first | ((with_reducible refine gate_dst (N := 1) rfl ?_); refine box_event ?hg (N := 1) ?hd (cs := #[.int .i64 a0_0, .int .i64 a0_1, .int .i64 a0_2, .int .u64 a0_3, .int .u64 a0_4, .int .u64 a0_5]) (t := 37) ?hr ?_; (case hd => rfl); (case hg => rfl); (case hr => first | (go_simp; done) | (go_simp; rfl)); intro gb182 hg w2 hbox hb; have n0_ := Aside0.mk (below_step (by repeat (first | (with_reducible first | exact HB.out | apply below_alloc | apply pw_below_drewN | apply below_drew1) | exact HB.out)) hb); have n1_ := Aside0.mk (hbox); have n2_ := Aside0.mk ((by rw [hg]; exact (below_size (by repeat (first | (with_reducible first | exact HB.out | apply below_alloc | apply pw_below_drewN | apply below_drew1) | exact HB.out))) : w.heap.size ≤ gb182)); have n3_ := Aside0.mk ((by rw [hg]; exact (below_size (by repeat (first | (with_reducible first | exact HB.out | apply below_alloc | apply pw_below_drewN | apply below_drew1) | exact HB.out))) : w.heap.size ≤ gb182)); clear HB; have HB := n0_; have BK182 := n1_; have GW182 := n2_; have GE182 := n3_; clear n0_ n1_ n2_ n3_; clear hb hbox hg; have hcz3_0 : w2.cell? ⟨gb182, 0, none⟩ = some (.int .i64 a0_0) := (blk_cell BK182.out 0).trans rfl; have hcz3_1 : w2.cell? ⟨gb182, 1, none⟩ = some (.int .i64 a0_1) := (blk_cell BK182.out 1).trans rfl; have hcz3_2 : w2.cell? ⟨gb182, 2, none⟩ = some (.int .i64 a0_2) := (blk_cell BK182.out 2).trans rfl; have hcz3_3 : w2.cell? ⟨gb182, 3, none⟩ = some (.int .u64 a0_3) := (blk_cell BK182.out 3).trans rfl; have hcz3_4 : w2.cell? ⟨gb182, 4, none⟩ = some (.int .u64 a0_4) := (blk_cell BK182.out 4).trans rfl; have hcz3_5 : w2.cell? ⟨gb182, 5, none⟩ = some (.int .u64 a0_5) := (blk_cell BK182.out 5).trans rfl; have hfz3_0 := blk_frozen BK182.out 0; have hfz3_1 := blk_frozen BK182.out 1; have hfz3_2 := blk_frozen BK182.out 2; have hfz3_3 := blk_frozen BK182.out 3; have hfz3_4 := blk_frozen BK182.out 4; have hfz3_5 := blk_frozen BK182.out 5))
  go_ret
  exact ⟨by first | rfl | (simp [errW_none, errW_some] <;> rfl) | (simp [*, errW_none, errW_some] <;> rfl), by repeat (first | (with_reducible first | exact HB.out | apply below_alloc | apply pw_below_drewN | apply below_drew1 | refine below_set ?_ GE182.out) | exact HB.out)⟩
end Go.Proofs.YtijldedhcjkhiaaDoor.U
