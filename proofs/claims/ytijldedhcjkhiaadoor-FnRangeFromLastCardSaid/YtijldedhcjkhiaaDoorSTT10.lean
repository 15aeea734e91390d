import Derived.Test.YtijldedhcjkhiaaDoorSTT0
import Derived.Test.YtijldedhcjkhiaaDoorSTT3
import Derived.Test.YtijldedhcjkhiaaDoorSTT5
import Derived.Test.YtijldedhcjkhiaaDoorSTT6
import Derived.Test.YtijldedhcjkhiaaDoorSTT7
import Derived.Test.YtijldedhcjkhiaaDoorSTT9
namespace Go.Proofs.YtijldedhcjkhiaaDoor.T
open Go.RowKit Go.Proofs.YtijldedhcjkhiaaDoorW.PrintWords Go.Proofs.YtijldedhcjkhiaaDoorW.PrintLast Go.Proofs.YtijldedhcjkhiaaDoorW.PrintMore
attribute [local go_sem] max2_int min2_int max_two min_two max_three min_three max_four min_four   -- for this text's walks alone
set_option linter.unusedVariables false
set_option linter.unusedSimpArgs false
def appR (k : Nat) (h0 h1 h2 h3 h4 h5 : Int) (b : Int) (e : Nat) (e2 : Int) (T : List (List Int)) (x : List Int) (H_ : List (List Int)) : Option (List (List Int) × List S88) :=
  (compact_getMergePath.f b (e : Int) e2).bind fun p =>
    if (0 ≤ p.1 ∧ p.1 ≤ 64 ∧ 0 ≤ p.2 ∧ p.2 ≤ 64) ∧ e < 18446744073709551616 ∧ T.length ≤ 1000000 ∧ H_.length ≤ 1000000 then
      (bits_OnesCount64.f (Go.bits .and .u64 ((e / 2 ^ p.1.toNat : Nat) : Int) ((2 ^ ((if p.2.toNat < p.1.toNat then p.1.toNat else p.2.toNat) - p.1.toNat) - 1 : Nat) : Int))).bind fun o =>
        if 0 ≤ o ∧ o.toNat ≤ T.length ∧ (if p.2.toNat < p.1.toNat then p.1.toNat else p.2.toNat) - p.1.toNat ≤ H_.length + o.toNat then
          (apl k h0 h1 h2 h3 h4 h5 T H_ ((if p.2.toNat < p.1.toNat then p.1.toNat else p.2.toNat) - p.1.toNat) p.1.toNat T.length 0 (e / 2 ^ p.1.toNat) x []).bind fun r => some (T.take r.2.1 ++ [r.1] ++ H_.drop r.2.2.1, r.2.2.2)
        else none
    else none
theorem appR_mono (k : Nat) (h0 h1 h2 h3 h4 h5 b : Int) (e : Nat) (e2 : Int) (T : List (List Int)) (x : List Int) (H_ : List (List Int)) : LeO (appR k h0 h1 h2 h3 h4 h5 b e e2 T x H_) (appR (k + 1) h0 h1 h2 h3 h4 h5 b e e2 T x H_) :=
  LeO.bind (LeO.refl _) fun _ => LeO.ite (LeO.bind (LeO.refl _) fun _ => LeO.ite (LeO.bind (apl_mono _ _ _ _ _ _ _ _ _ _ _ _ _ _ _ _) fun _ => LeO.refl _) (LeO.none _)) (LeO.none _)
theorem appR_inv {k : Nat} {h0 h1 h2 h3 h4 h5 b : Int} {e : Nat} {e2 : Int} {T : List (List Int)} {x : List Int} {H_ : List (List Int)} {r : List (List Int) × List S88} (h : appR k h0 h1 h2 h3 h4 h5 b e e2 T x H_ = some r) :
    ∃ (low hi0 hi x0 ones : Nat) (T' : List Int) (i1 i2 : Nat), compact_getMergePath.f b (e : Int) e2 = some ((low : Int), (hi0 : Int)) ∧ low ≤ 64 ∧ hi0 ≤ 64 ∧ hi = (if hi0 < low then low else hi0) ∧ e < 18446744073709551616 ∧ x0 = e / 2 ^ low ∧ bits_OnesCount64.f (Go.bits .and .u64 (x0 : Int) ((2 ^ (hi - low) - 1 : Nat) : Int)) = some (ones : Int) ∧ ones ≤ T.length ∧ (hi - low : Nat) ≤ H_.length + ones ∧ T.length ≤ 1000000 ∧ H_.length ≤ 1000000 ∧ apl k h0 h1 h2 h3 h4 h5 T H_ (hi - low) low T.length 0 x0 x [] = some (T', i1, i2, r.2) ∧ r.1 = T.take i1 ++ [T'] ++ H_.drop i2 := by
  unfold appR at h
  obtain ⟨⟨p1, p2⟩, hp, h⟩ := Option.bind_eq_some_iff.mp h
  by_cases c : (0 ≤ p1 ∧ p1 ≤ 64 ∧ 0 ≤ p2 ∧ p2 ≤ 64) ∧ e < 18446744073709551616 ∧ T.length ≤ 1000000 ∧ H_.length ≤ 1000000
  case neg => rw [if_neg c] at h; cases h
  rw [if_pos c] at h
  obtain ⟨o, ho, h⟩ := Option.bind_eq_some_iff.mp h
  obtain ⟨⟨q1, q2, q3, q4⟩, c1, c2, c3⟩ := c
  obtain ⟨low, rfl⟩ := Int.eq_ofNat_of_zero_le q1
  obtain ⟨hi0, rfl⟩ := Int.eq_ofNat_of_zero_le q3
  simp only [Int.toNat_natCast] at h ho
  generalize hhi : (if hi0 < low then low else hi0) = hi at h ho
  by_cases d : 0 ≤ o ∧ o.toNat ≤ T.length ∧ hi - low ≤ H_.length + o.toNat
  case neg => rw [if_neg d] at h; cases h
  rw [if_pos d] at h
  obtain ⟨⟨T', i1, i2, L'⟩, ha, h⟩ := Option.bind_eq_some_iff.mp h
  simp only [Option.some.injEq] at h
  subst h
  obtain ⟨d1, d2, d3⟩ := d
  obtain ⟨ones, rfl⟩ := Int.eq_ofNat_of_zero_le d1
  rw [Int.toNat_natCast] at d2 d3
  exact ⟨low, hi0, hi, _, ones, T', i1, i2, hp, by omega, by omega, hhi.symm, c1, rfl, ho, d2, d3, c2, c3, ha, rfl⟩
def impl_AppendRange.f (k : Nat) (h0 h1 h2 h3 h4 h5 : Int) (b e : Int) (l1 : List (List Int)) (b2 e2 : Int) (l2 : List (List Int)) : Option (Int × Int × List (List Int) × List S88 × Bool) :=
  (impl_texts.f k l1).bind fun t => (compact_RangeSize.f b e).bind fun sz => (impl_texts.f k l2).bind fun u => (compact_RangeSize.f b2 e2).bind fun sz2 => if (b ≤ e ∧ 0 ≤ e ∧ (t.length : Int) = sz) ∧ e = b2 ∧ b2 ≤ e2 ∧ (u.length : Int) = sz2 then (match u with
    | [] => (impl_texts.f k t).bind fun z => some (b, e, z, [], true)
    | x :: H_ => (appR k h0 h1 h2 h3 h4 h5 b e.toNat e2 t x H_).bind fun r => (impl_texts.f k r.1).bind fun z => some (b, e2, z, r.2, true)) else none
theorem impl_AppendRange.mono (h0 h1 h2 h3 h4 h5 b e : Int) (l1 : List (List Int)) (b2 e2 : Int) (l2 : List (List Int)) : ∀ k, LeO (impl_AppendRange.f k h0 h1 h2 h3 h4 h5 b e l1 b2 e2 l2) (impl_AppendRange.f (k + 1) h0 h1 h2 h3 h4 h5 b e l1 b2 e2 l2) := by
  intro k
  unfold impl_AppendRange.f
  refine LeO.bind (impl_texts.mono _ _) fun t => LeO.bind (LeO.refl _) fun sz => LeO.bind (impl_texts.mono _ _) fun u => LeO.bind (LeO.refl _) fun sz2 => LeO.ite ?_ (LeO.none _)
  cases u with
  | nil => exact LeO.bind (impl_texts.mono _ _) fun z => LeO.refl _
  | cons x H_ => exact LeO.bind (appR_mono _ _ _ _ _ _ _ _ _ _ _ _ _) fun r => LeO.bind (impl_texts.mono _ _) fun z => LeO.refl _
def impl_AppendRange.T2 : Bool × List (List Nat × List Nat) := (true, [([], []), ([], []), ([1], [1]), ([], []), ([3], [3]), ([], []), ([5], [5]), ([6], [6]), ([0, 2, 4, 7, 7], [0, 2, 4, 7]), ([8], [8]), ([9], [9]), ([9], [9]), ([10, 8, 0, 1, 2, 3, 4, 5, 6, 7, 8, 9, 10], [10]), ([11, 12, 0, 1, 2, 3, 4, 5, 6, 7, 8, 9, 10, 11, 12], [11])])
def impl_AppendRange.B2 : List Nat := [0, 0, 2, 0, 8, 0, 32, 96, 255, 511, 1023, 1023, 2047, 8191]
theorem impl_AppendRange.tab2 : rtab .any (opsOf Tryd.f46 2) = impl_AppendRange.T2 := by kernel_rfl
theorem impl_AppendRange.bits2 : waitsOk impl_AppendRange.T2.2 impl_AppendRange.B2 = true := by kernel_rfl
def impl_AppendRange.T5 : Bool × List (List Nat × List Nat) := (true, [([], []), ([], []), ([1], [1]), ([], []), ([3], [3]), ([], []), ([5], [5]), ([6], [6]), ([0, 2, 4, 7, 7], [0, 2, 4, 7]), ([8], [8]), ([9], [9]), ([9], [9]), ([10, 8, 0, 1, 2, 3, 4, 5, 6, 7, 8, 9, 10], [10]), ([11, 12, 0, 1, 2, 3, 4, 5, 6, 7, 8, 9, 10, 11, 12], [11])])
def impl_AppendRange.B5 : List Nat := [0, 0, 2, 0, 8, 0, 32, 96, 255, 511, 1023, 1023, 2047, 8191]
theorem impl_AppendRange.tab5 : rtab .any (opsOf Tryd.f46 5) = impl_AppendRange.T5 := by kernel_rfl
theorem impl_AppendRange.bits5 : waitsOk impl_AppendRange.T5.2 impl_AppendRange.B5 = true := by kernel_rfl
def impl_AppendRange.T12 : Bool × List (List Nat × List Nat) := (true, [([], []), ([0], [0]), ([], []), ([1, 1, 0, 1], [1]), ([2, 3, 0, 1, 2, 3], [2]), ([4, 0, 1, 2, 3, 4], [])])
def impl_AppendRange.B12 : List Nat := [0, 1, 0, 3, 15, 31]
theorem impl_AppendRange.tab12 : rtab .any (opsOf Tryd.f46 12) = impl_AppendRange.T12 := by kernel_rfl
theorem impl_AppendRange.bits12 : waitsOk impl_AppendRange.T12.2 impl_AppendRange.B12 = true := by kernel_rfl
set_option maxHeartbeats 8000000 in
set_option maxRecDepth 100000 in
theorem impl_AppendRange.calls (k : Nat) (a0_0 : Int) (a0_1 : Int) (a0_2 : Int) (a0_3 : Int) (a0_4 : Int) (a0_5 : Int) (a1_0 : Int) (a1_1 : Int) (A1_2 : Option Addr) (c1_2 : Nat) (l1_2 : List (List Int)) (a2_0 : Int) (a2_1 : Int) (A2_2 : Option Addr) (c2_2 : Nat) (l2_2 : List (List Int)) (r1_0 : Int) (r1_1 : Int) (r1_2 : List (List Int)) (r2 : List S88) (r3 : Bool) (w : World) (hGT : GlobT w) (hr1_2 : Kd.C (Kd.slice 5 (Kd.int .u8)) w A1_2 l1_2.length l1_2) (hc1_2 : l1_2.length ≤ c1_2) (hr2_2 : Kd.C (Kd.slice 5 (Kd.int .u8)) w A2_2 l2_2.length l2_2) (hc2_2 : l2_2.length ≤ c2_2) (h : impl_AppendRange.f k a0_0 a0_1 a0_2 a0_3 a0_4 a0_5 a1_0 a1_1 l1_2 a2_0 a2_1 l2_2 = some (r1_0, r1_1, r1_2, r2, r3)) :
    Calls Tryd.prog 46 #[.agg #[.int .i64 a0_0, .int .i64 a0_1, .int .i64 a0_2, .int .u64 a0_3, .int .u64 a0_4, .int .u64 a0_5], .agg #[.int .u64 a1_0, .int .u64 a1_1, .slice A1_2 l1_2.length c1_2], .agg #[.int .u64 a2_0, .int .u64 a2_1, .slice A2_2 l2_2.length c2_2]] w fun e w' => ∃ v0_ v1_ : Value, e = .returned (.tuple #[.agg #[.int .u64 r1_0, .int .u64 r1_1, v0_], v1_, .bool r3]) ∧ Kd.V (Kd.slice 5 (Kd.int .u8)) 42 w' w.heap.size (fun k_ => w.heap.size ≤ k_) v0_ r1_2 ∧ Kd.V k88 88 w' w.heap.size (fun k_ => w.heap.size ≤ k_) v1_ r2 ∧ Below w.heap.size w w' := by
  have hu37 := Tryd.underlying37
  have hu40 := Tryd.underlying40
  have hu117 := Tryd.underlying117
  have hu120 := Tryd.underlying120
  have hu38 := Tryd.underlying38
  have HR1 := Aside0.mk hr1_2
  have HR2 := Aside0.mk hr2_2
  have HB := Aside0.mk (Below.refl w.heap.size w)
  clear hr1_2 hr2_2
  unfold impl_AppendRange.f at h
  replace h := Option.bind_eq_some_iff.mp h
  obtain ⟨t, hA1, H⟩ := h
  replace H := Option.bind_eq_some_iff.mp H
  obtain ⟨sz1, hA2, H⟩ := H
  replace H := Option.bind_eq_some_iff.mp H
  obtain ⟨u, hA3, H⟩ := H
  replace H := Option.bind_eq_some_iff.mp H
  obtain ⟨sz2, hA4, H⟩ := H
  by_cases hsz : (a1_0 ≤ a1_1 ∧ 0 ≤ a1_1 ∧ (t.length : Int) = sz1) ∧ a1_1 = a2_0 ∧ a2_0 ≤ a2_1 ∧ (u.length : Int) = sz2
  case neg => rw [if_neg hsz] at H; cases H
  rw [if_pos hsz] at H
  obtain ⟨⟨z1, z2, z3⟩, z4, z5, z6⟩ := hsz
  subst z4
  have A1 := Aside0.mk hA1
  have A2_ := Aside0.mk hA2
  have A3 := Aside0.mk hA3
  have A4_ := Aside0.mk hA4
  have HZ := Aside0.mk (And.intro z1 (And.intro z2 (And.intro z3 (And.intro z5 z6))))
  have HH := Aside0.mk H
  clear hA1 hA2 hA3 hA4 z1 z2 z3 z5 z6 H
  go_enter Tryd.func46, Tryd.ntmps46
  go_wp2_with (first | ((with_reducible refine gate_dst (N := 3) rfl ?_); refine box_event ?hg (N := 3) ?hd (cs := #[.int .i64 a0_0, .int .i64 a0_1, .int .i64 a0_2, .int .u64 a0_3, .int .u64 a0_4, .int .u64 a0_5]) (t := 37) ?hr ?_; (case hd => rfl); (case hg => rfl); (case hr => first | (go_simp; done) | (go_simp; rfl)); intro gb3 hg w3 hbox hb; (have BK3 := Aside0.mk hbox); (have GBK3 := Aside0.mk (show w.heap.size ≤ gb3 by rw [hg]; exact HB.out.size)); (have HB1 := Aside0.mk (below_step HB.out hb)); clear hbox hb hg HB; have HB := HB1; clear HB1) | ((with_reducible refine gate_dst (N := 4) rfl ?_); refine box_event ?hg (N := 4) ?hd (cs := #[.int .u64 a1_0, .int .u64 a1_1, .slice A1_2 l1_2.length c1_2]) (t := 40) ?hr ?_; (case hd => rfl); (case hg => rfl); (case hr => first | (go_simp; done) | (go_simp; rfl)); intro gb4 hg w4 hbox hb; (have BK4 := Aside0.mk hbox); (have GBK4 := Aside0.mk (show w.heap.size ≤ gb4 by rw [hg]; exact HB.out.size)); (have BK31 := Aside0.mk (blk_below BK3.out hb)); (have HB1 := Aside0.mk (below_step HB.out hb)); clear hbox hb hg HB BK3; have HB := HB1; have BK3 := BK31; clear HB1 BK31) | ((with_reducible refine gate_dst (N := 5) rfl ?_); refine box_event ?hg (N := 5) ?hd (cs := #[.int .u64 a1_1, .int .u64 a2_1, .slice A2_2 l2_2.length c2_2]) (t := 40) ?hr ?_; (case hd => rfl); (case hg => rfl); (case hr => first | (go_simp; done) | (go_simp; rfl)); intro gb5 hg w5 hbox hb; (have BK5 := Aside0.mk hbox); (have GBK5 := Aside0.mk (show w.heap.size ≤ gb5 by rw [hg]; exact HB.out.size)); (have BK31 := Aside0.mk (blk_below BK3.out hb)); (have BK41 := Aside0.mk (blk_below BK4.out hb)); (have HB1 := Aside0.mk (below_step HB.out hb)); clear hbox hb hg HB BK3 BK4; have HB := HB1; have BK3 := BK31; have BK4 := BK41; clear HB1 BK31 BK41) | ((with_reducible refine gate_dst (N := 6) rfl ?_); refine box_event ?hg (N := 6) ?hd (cs := #[.int .u64 0, .int .u64 0, .slice none 0 0]) (t := 40) ?hr ?_; (case hd => rfl); (case hg => rfl); (case hr => first | (go_simp; done) | (go_simp; rfl)); intro gb6 hg w6 hbox hb; (have BK6 := Aside0.mk hbox); (have GBK6 := Aside0.mk (show w.heap.size ≤ gb6 by rw [hg]; exact HB.out.size)); (have BK31 := Aside0.mk (blk_below BK3.out hb)); (have BK41 := Aside0.mk (blk_below BK4.out hb)); (have BK51 := Aside0.mk (blk_below BK5.out hb)); (have HB1 := Aside0.mk (below_step HB.out hb)); clear hbox hb hg HB BK3 BK4 BK5; have HB := HB1; have BK3 := BK31; have BK4 := BK41; have BK5 := BK51; clear HB1 BK31 BK41 BK51; have hc3_0 := (blk_cell BK3.out 0).trans rfl; have hc3_1 := (blk_cell BK3.out 1).trans rfl; have hc3_2 := (blk_cell BK3.out 2).trans rfl; have hc3_3 := (blk_cell BK3.out 3).trans rfl; have hc3_4 := (blk_cell BK3.out 4).trans rfl; have hc3_5 := (blk_cell BK3.out 5).trans rfl) | ((with_reducible refine gate_dst (N := 18) rfl ?_); refine box_event ?hg (N := 18) ?hd (cs := facCells a0_0 a0_1 a0_2 a0_3 a0_4 a0_5) (t := 117) ?hr ?_; (case hd => rfl); (case hg => rfl); (case hr => first | (go_simp; done) | (go_simp; rfl)); intro bf hg w7 hbox hb; clear hc3_0 hc3_1 hc3_2 hc3_3 hc3_4 hc3_5; (have BF := Aside0.mk hbox); (have GBF := Aside0.mk (show w.heap.size ≤ bf by rw [hg]; exact HB.out.size)); (have BK41 := Aside0.mk (blk_below BK4.out hb)); (have BK51 := Aside0.mk (blk_below BK5.out hb)); (have BK61 := Aside0.mk (blk_below BK6.out hb)); (have HB1 := Aside0.mk (below_step HB.out hb)); clear hbox hb hg HB BK4 BK5 BK6; have HB := HB1; have BK4 := BK41; have BK5 := BK51; have BK6 := BK61; clear HB1 BK41 BK51 BK61; clear BK3))
  have BF1 := Aside0.mk (blk_drew BF.out)
  have BK41 := Aside0.mk (blk_drew BK4.out)
  have BK51 := Aside0.mk (blk_drew BK5.out)
  have BK61 := Aside0.mk (blk_drew BK6.out)
  have HB1 := Aside0.mk (below_drew1 HB.out)
  clear BF BK4 BK5 BK6 HB
  have BF := BF1
  have BK4 := BK41
  have BK5 := BK51
  have BK6 := BK61
  have HB := HB1
  clear BF1 BK41 BK51 BK61 HB1
  refine start_ (n := 14) (S := fun w' => w'.cell? ⟨gb4, 0, none⟩ = some (.int .u64 a1_0) ∧ w'.cell? ⟨gb4, 1, none⟩ = some (.int .u64 a1_1) ∧ w'.cell? ⟨gb4, 2, none⟩ = some (.slice A1_2 l1_2.length c1_2)) (ds := []) #[false, false, false, false, false, false, false, false, false, false, false, false, false, false] (by kernel_rfl) rfl rfl (⟨(blk_cell BK4.out 0).trans rfl, (blk_cell BK4.out 1).trans rfl, (blk_cell BK4.out 2).trans rfl⟩) (fun hHeld => ?_)
  refine with_tabW impl_AppendRange.tab2 impl_AppendRange.bits2 (fun HT_ HW_ => ?_)
  generalize w7.drew = w8 at BF BK4 BK5 BK6 HB hHeld ⊢
  refine pure_ (i := 0) (N := (some 20)) (v := ?_) (a' := ?_) #[true, false, false, false, false, false, false, false, false, false, false, false, false, false] rfl rfl (any_of HT_.out (by kernel_rfl)) (fun _ _ _ h => h) (Or.inl ⟨by rfl, ?_⟩) ?_ ?_
  rotate_left
  · intro w'
    go_simp
    with_reducible rfl
  rotate_left
  · simp only [Act.put, List.setIfInBounds_toArray, List.set_cons_zero, List.set_cons_succ, i64_w, i32_w]
    rfl
  refine pure_ (i := 1) (N := (some 21)) (v := ?_) (a' := ?_) #[true, true, false, false, false, false, false, false, false, false, false, false, false, false] rfl rfl (any_of HT_.out (by kernel_rfl)) (fun _ _ _ h => h) (Or.inl ⟨by rfl, ?_⟩) ?_ ?_
  rotate_left
  · intro w'
    go_simp
    with_reducible rfl
  rotate_left
  · simp only [Act.put, List.setIfInBounds_toArray, List.set_cons_zero, List.set_cons_succ, i64_w, i32_w]
    rfl
  refine take_ (i := 2) (N := (some 22)) (v := ?_) (a' := ?_) #[true, true, true, false, false, false, false, false, false, false, false, false, false, false] rfl rfl (take_ofW HT_.out HW_.out (by kernel_rfl)) (fun _ _ _ h => h) (Or.inl ⟨by rfl, ?_⟩) hHeld ?_ ?_
  rotate_left
  · rintro w' ⟨s0, s1, s2⟩
    go_simp
    with_reducible rfl
  rotate_left
  · simp only [Act.put, List.setIfInBounds_toArray, List.set_cons_zero, List.set_cons_succ, i64_w, i32_w]
    rfl
  refine pure_ (i := 3) (N := (some 23)) (v := ?_) (a' := ?_) #[true, true, true, true, false, false, false, false, false, false, false, false, false, false] rfl rfl (any_of HT_.out (by kernel_rfl)) (fun _ _ _ h => h) (Or.inl ⟨by rfl, ?_⟩) ?_ ?_
  rotate_left
  · intro w'
    go_simp
    with_reducible rfl
  rotate_left
  · simp only [Act.put, List.setIfInBounds_toArray, List.set_cons_zero, List.set_cons_succ, i64_w, i32_w]
    rfl
  refine take_ (i := 4) (N := (some 24)) (v := ?_) (a' := ?_) #[true, true, true, true, true, false, false, false, false, false, false, false, false, false] rfl rfl (take_ofW HT_.out HW_.out (by kernel_rfl)) (fun _ _ _ h => h) (Or.inl ⟨by rfl, ?_⟩) hHeld ?_ ?_
  rotate_left
  · rintro w' ⟨s0, s1, s2⟩
    go_simp
    with_reducible rfl
  rotate_left
  · simp only [Act.put, List.setIfInBounds_toArray, List.set_cons_zero, List.set_cons_succ, i64_w, i32_w]
    rfl
  refine pure_ (i := 5) (N := (some 25)) (v := ?_) (a' := ?_) #[true, true, true, true, true, true, false, false, false, false, false, false, false, false] rfl rfl (any_of HT_.out (by kernel_rfl)) (fun _ _ _ h => h) (Or.inl ⟨by rfl, ?_⟩) ?_ ?_
  rotate_left
  · intro w'
    go_simp
    with_reducible rfl
  rotate_left
  · simp only [Act.put, List.setIfInBounds_toArray, List.set_cons_zero, List.set_cons_succ, i64_w, i32_w]
    rfl
  refine take_ (i := 6) (N := (some 26)) (v := ?_) (a' := ?_) #[true, true, true, true, true, true, true, false, false, false, false, false, false, false] rfl rfl (take_ofW HT_.out HW_.out (by kernel_rfl)) (fun _ _ _ h => h) (Or.inl ⟨by rfl, ?_⟩) hHeld ?_ ?_
  rotate_left
  · rintro w' ⟨s0, s1, s2⟩
    go_simp
    with_reducible rfl
  rotate_left
  · simp only [Act.put, List.setIfInBounds_toArray, List.set_cons_zero, List.set_cons_succ, i64_w, i32_w]
    rfl
  refine one_ (i := 7) (N := (some 27)) #[true, true, true, true, true, true, true, true, false, false, false, false, false, false] rfl rfl (one_of HT_.out (by kernel_rfl)) (by decide) (fun K hK => ?_)
  refine goes_ Tryd.func70 (by kernel_rfl) rfl #[.slice A1_2 l1_2.length c1_2] (by rfl) rfl rfl (by (try simp only [List.map_toArray, List.map_cons, List.map_nil]); first | done | rfl) ?_
  with_reducible refine (impl_texts.calls k A1_2 c1_2 l1_2 t _ ?side1 hc1_2 A1.out).mono ?_
  case side1 => exact Kd.C_below HR1.out HB.out
  rintro e6 w9 ⟨v9, rfl, ho, hb⟩
  refine ⟨_, rfl, ?_⟩
  obtain ⟨A9, cA9, rfl⟩ := Kd.S_slice ho
  have HO9 := Aside0.mk ho
  have Z1a := Aside0.mk (And.intro HB.out.size hb.size)
  have BF1 := Aside0.mk (blk_below BF.out hb)
  have BK41 := Aside0.mk (blk_below BK4.out hb)
  have BK51 := Aside0.mk (blk_below BK5.out hb)
  have BK61 := Aside0.mk (blk_below BK6.out hb)
  have HB1 := Aside0.mk (below_step HB.out hb)
  clear BF BK4 BK5 BK6 HB hb ho
  have BF := BF1
  have BK4 := BK41
  have BK5 := BK51
  have BK6 := BK61
  have HB := HB1
  clear BF1 BK41 BK51 BK61 HB1
  refine hK.out _ _ ⟨(blk_cell BK4.out 0).trans rfl, (blk_cell BK4.out 1).trans rfl, (blk_cell BK4.out 2).trans rfl⟩ (fun hHeld => ?_)
  clear hK K
  refine norm_ (a' := ?_) ?_ ?_
  rotate_left
  · show Act.put _ (some 27) _ = _
    simp only [Act.put, List.setIfInBounds_toArray, List.set_cons_zero, List.set_cons_succ, i64_w, i32_w]
    rfl
  refine one_ (i := 8) (N := (some 28)) #[true, true, true, true, true, true, true, true, true, false, false, false, false, false] rfl rfl (one_of HT_.out (by kernel_rfl)) (by decide) (fun K hK => ?_)
  refine goes_ Tryd.func69 (by kernel_rfl) rfl #[.pointer (some ⟨bf, 0, none⟩), .int .u64 a1_0, .int .u64 a1_1, .slice A9 t.length cA9] (by rfl) rfl rfl (by (try simp only [List.map_toArray, List.map_cons, List.map_nil]); first | done | rfl) ?_
  with_reducible refine (compact_RangeFactory_NewRange.calls ⟨bf, 0, none⟩ a1_0 a1_1 sz1 A9 t.length cA9 HZ.out.1 A2_.out HZ.out.2.2.1 _).mono ?_
  rintro e6 w10 ⟨br, rfl, hbr, hge, hb⟩
  refine ⟨_, rfl, ?_⟩
  have Z1b := Aside0.mk (And.intro hge hb.size)
  have BR := Aside0.mk hbr
  have BF1 := Aside0.mk (blk_below BF.out hb)
  have BK41 := Aside0.mk (blk_below BK4.out hb)
  have BK51 := Aside0.mk (blk_below BK5.out hb)
  have BK61 := Aside0.mk (blk_below BK6.out hb)
  have HO91 := Aside0.mk (Kd.S_below HO9.out hb)
  have HB1 := Aside0.mk (below_step HB.out hb)
  clear BF BK4 BK5 BK6 HO9 HB hb hbr hge
  have BF := BF1
  have BK4 := BK41
  have BK5 := BK51
  have BK6 := BK61
  have HO9 := HO91
  have HB := HB1
  clear BF1 BK41 BK51 BK61 HO91 HB1
  refine hK.out _ _ ⟨(blk_cell BK4.out 0).trans rfl, (blk_cell BK4.out 1).trans rfl, (blk_cell BK4.out 2).trans rfl⟩ (fun hHeld => ?_)
  clear hK K
  refine norm_ (a' := ?_) ?_ ?_
  rotate_left
  · show Act.put _ (some 28) _ = _
    simp only [Act.put, List.setIfInBounds_toArray, List.set_cons_zero, List.set_cons_succ, i64_w, i32_w]
    rfl
  refine pure_ (i := 9) (N := (some 19)) (v := ?_) (a' := ?_) #[true, true, true, true, true, true, true, true, true, true, false, false, false, false] rfl rfl (any_of HT_.out (by kernel_rfl)) (fun _ _ _ h => h) (Or.inl ⟨by rfl, ?_⟩) ?_ ?_
  rotate_left
  · intro w'
    go_simp
    with_reducible rfl
  rotate_left
  · simp only [Act.put, List.setIfInBounds_toArray, List.set_cons_zero, List.set_cons_succ, i64_w, i32_w]
    rfl
  refine pure_ (i := 10) (N := (some 29)) (v := ?_) (a' := ?_) #[true, true, true, true, true, true, true, true, true, true, true, false, false, false] rfl rfl (any_of HT_.out (by kernel_rfl)) (fun _ _ _ h => h) (Or.inl ⟨by rfl, ?_⟩) ?_ ?_
  rotate_left
  · intro w'
    go_simp
    with_reducible rfl
  rotate_left
  · simp only [Act.put, List.setIfInBounds_toArray, List.set_cons_zero, List.set_cons_succ, i64_w, i32_w]
    rfl
  refine pure_ (i := 11) (N := (some 30)) (v := ?_) (a' := ?_) #[true, true, true, true, true, true, true, true, true, true, true, true, false, false] rfl rfl (any_of HT_.out (by kernel_rfl)) (fun _ _ _ h => h) (Or.inl ⟨by rfl, ?_⟩) ?_ ?_
  rotate_left
  · intro w'
    go_simp
    with_reducible rfl
  rotate_left
  · simp only [Act.put, List.setIfInBounds_toArray, List.set_cons_zero, List.set_cons_succ, i64_w, i32_w]
    rfl
  refine pure_ (i := 12) (N := (some 10)) (v := ?_) (a' := ?_) #[true, true, true, true, true, true, true, true, true, true, true, true, true, false] rfl rfl (any_of HT_.out (by kernel_rfl)) (fun _ _ _ h => h) (Or.inl ⟨by rfl, ?_⟩) ?_ ?_
  rotate_left
  · intro w'
    go_simp
    with_reducible rfl
  rotate_left
  · simp only [Act.put, List.setIfInBounds_toArray, List.set_cons_zero, List.set_cons_succ, i64_w, i32_w]
    rfl
  refine pure_ (i := 13) (N := (some 11)) (v := ?_) (a' := ?_) #[true, true, true, true, true, true, true, true, true, true, true, true, true, true] rfl rfl (any_of HT_.out (by kernel_rfl)) (fun _ _ _ h => h) (Or.inl ⟨by rfl, ?_⟩) ?_ ?_
  rotate_left
  · intro w'
    go_simp
    with_reducible rfl
  rotate_left
  · simp only [Act.put, List.setIfInBounds_toArray, List.set_cons_zero, List.set_cons_succ, i64_w, i32_w]
    rfl
  refine done_ (done_of HT_.out (by kernel_rfl)) ?_
  clear hHeld
  clear BK4
  go_wp2
  have BF1 := Aside0.mk (blk_drew BF.out)
  have BK51 := Aside0.mk (blk_drew BK5.out)
  have BK61 := Aside0.mk (blk_drew BK6.out)
  have BR1 := Aside0.mk (blk_drew BR.out)
  have HB1 := Aside0.mk (below_drew1 HB.out)
  clear BF BK5 BK6 BR HB
  have BF := BF1
  have BK5 := BK51
  have BK6 := BK61
  have BR := BR1
  have HB := HB1
  clear BF1 BK51 BK61 BR1 HB1
  have HO91 := Aside0.mk (Kd.S_drew HO9.out)
  clear HO9
  have HO9 := HO91
  clear HO91
  refine start_ (n := 14) (S := fun w' => w'.cell? ⟨gb5, 0, none⟩ = some (.int .u64 a1_1) ∧ w'.cell? ⟨gb5, 1, none⟩ = some (.int .u64 a2_1) ∧ w'.cell? ⟨gb5, 2, none⟩ = some (.slice A2_2 l2_2.length c2_2)) (ds := []) #[false, false, false, false, false, false, false, false, false, false, false, false, false, false] (by kernel_rfl) rfl rfl (⟨(blk_cell BK5.out 0).trans rfl, (blk_cell BK5.out 1).trans rfl, (blk_cell BK5.out 2).trans rfl⟩) (fun hHeld => ?_)
  refine with_tabW impl_AppendRange.tab5 impl_AppendRange.bits5 (fun HT_ HW_ => ?_)
  generalize w10.drew = w11 at BF BK5 BK6 BR HO9 HB hHeld ⊢
  refine pure_ (i := 0) (N := (some 35)) (v := ?_) (a' := ?_) #[true, false, false, false, false, false, false, false, false, false, false, false, false, false] rfl rfl (any_of HT_.out (by kernel_rfl)) (fun _ _ _ h => h) (Or.inl ⟨by rfl, ?_⟩) ?_ ?_
  rotate_left
  · intro w'
    go_simp
    with_reducible rfl
  rotate_left
  · simp only [Act.put, List.setIfInBounds_toArray, List.set_cons_zero, List.set_cons_succ, i64_w, i32_w]
    rfl
  refine pure_ (i := 1) (N := (some 36)) (v := ?_) (a' := ?_) #[true, true, false, false, false, false, false, false, false, false, false, false, false, false] rfl rfl (any_of HT_.out (by kernel_rfl)) (fun _ _ _ h => h) (Or.inl ⟨by rfl, ?_⟩) ?_ ?_
  rotate_left
  · intro w'
    go_simp
    with_reducible rfl
  rotate_left
  · simp only [Act.put, List.setIfInBounds_toArray, List.set_cons_zero, List.set_cons_succ, i64_w, i32_w]
    rfl
  refine take_ (i := 2) (N := (some 37)) (v := ?_) (a' := ?_) #[true, true, true, false, false, false, false, false, false, false, false, false, false, false] rfl rfl (take_ofW HT_.out HW_.out (by kernel_rfl)) (fun _ _ _ h => h) (Or.inl ⟨by rfl, ?_⟩) hHeld ?_ ?_
  rotate_left
  · rintro w' ⟨s0, s1, s2⟩
    go_simp
    with_reducible rfl
  rotate_left
  · simp only [Act.put, List.setIfInBounds_toArray, List.set_cons_zero, List.set_cons_succ, i64_w, i32_w]
    rfl
  refine pure_ (i := 3) (N := (some 38)) (v := ?_) (a' := ?_) #[true, true, true, true, false, false, false, false, false, false, false, false, false, false] rfl rfl (any_of HT_.out (by kernel_rfl)) (fun _ _ _ h => h) (Or.inl ⟨by rfl, ?_⟩) ?_ ?_
  rotate_left
  · intro w'
    go_simp
    with_reducible rfl
  rotate_left
  · simp only [Act.put, List.setIfInBounds_toArray, List.set_cons_zero, List.set_cons_succ, i64_w, i32_w]
    rfl
  refine take_ (i := 4) (N := (some 39)) (v := ?_) (a' := ?_) #[true, true, true, true, true, false, false, false, false, false, false, false, false, false] rfl rfl (take_ofW HT_.out HW_.out (by kernel_rfl)) (fun _ _ _ h => h) (Or.inl ⟨by rfl, ?_⟩) hHeld ?_ ?_
  rotate_left
  · rintro w' ⟨s0, s1, s2⟩
    go_simp
    with_reducible rfl
  rotate_left
  · simp only [Act.put, List.setIfInBounds_toArray, List.set_cons_zero, List.set_cons_succ, i64_w, i32_w]
    rfl
  refine pure_ (i := 5) (N := (some 40)) (v := ?_) (a' := ?_) #[true, true, true, true, true, true, false, false, false, false, false, false, false, false] rfl rfl (any_of HT_.out (by kernel_rfl)) (fun _ _ _ h => h) (Or.inl ⟨by rfl, ?_⟩) ?_ ?_
  rotate_left
  · intro w'
    go_simp
    with_reducible rfl
  rotate_left
  · simp only [Act.put, List.setIfInBounds_toArray, List.set_cons_zero, List.set_cons_succ, i64_w, i32_w]
    rfl
  refine take_ (i := 6) (N := (some 41)) (v := ?_) (a' := ?_) #[true, true, true, true, true, true, true, false, false, false, false, false, false, false] rfl rfl (take_ofW HT_.out HW_.out (by kernel_rfl)) (fun _ _ _ h => h) (Or.inl ⟨by rfl, ?_⟩) hHeld ?_ ?_
  rotate_left
  · rintro w' ⟨s0, s1, s2⟩
    go_simp
    with_reducible rfl
  rotate_left
  · simp only [Act.put, List.setIfInBounds_toArray, List.set_cons_zero, List.set_cons_succ, i64_w, i32_w]
    rfl
  refine one_ (i := 7) (N := (some 42)) #[true, true, true, true, true, true, true, true, false, false, false, false, false, false] rfl rfl (one_of HT_.out (by kernel_rfl)) (by decide) (fun K hK => ?_)
  refine goes_ Tryd.func70 (by kernel_rfl) rfl #[.slice A2_2 l2_2.length c2_2] (by rfl) rfl rfl (by (try simp only [List.map_toArray, List.map_cons, List.map_nil]); first | done | rfl) ?_
  with_reducible refine (impl_texts.calls k A2_2 c2_2 l2_2 u _ ?side1 hc2_2 A3.out).mono ?_
  case side1 => exact Kd.C_below HR2.out HB.out
  rintro e6 w12 ⟨v9, rfl, ho, hb⟩
  refine ⟨_, rfl, ?_⟩
  obtain ⟨AU, cAU, rfl⟩ := Kd.S_slice ho
  have HU := Aside0.mk ho
  have Z2a := Aside0.mk (Kd.S_lt HO9.out)
  have BF1 := Aside0.mk (blk_below BF.out hb)
  have BK51 := Aside0.mk (blk_below BK5.out hb)
  have BK61 := Aside0.mk (blk_below BK6.out hb)
  have BR1 := Aside0.mk (blk_below BR.out hb)
  have HO91 := Aside0.mk (Kd.S_below HO9.out hb)
  have HB1 := Aside0.mk (below_step HB.out hb)
  clear BF BK5 BK6 BR HO9 HB hb ho
  have BF := BF1
  have BK5 := BK51
  have BK6 := BK61
  have BR := BR1
  have HO9 := HO91
  have HB := HB1
  clear BF1 BK51 BK61 BR1 HO91 HB1
  refine hK.out _ _ ⟨(blk_cell BK5.out 0).trans rfl, (blk_cell BK5.out 1).trans rfl, (blk_cell BK5.out 2).trans rfl⟩ (fun hHeld => ?_)
  clear hK K
  refine norm_ (a' := ?_) ?_ ?_
  rotate_left
  · show Act.put _ (some 42) _ = _
    simp only [Act.put, List.setIfInBounds_toArray, List.set_cons_zero, List.set_cons_succ, i64_w, i32_w]
    rfl
  refine one_ (i := 8) (N := (some 43)) #[true, true, true, true, true, true, true, true, true, false, false, false, false, false] rfl rfl (one_of HT_.out (by kernel_rfl)) (by decide) (fun K hK => ?_)
  refine goes_ Tryd.func69 (by kernel_rfl) rfl #[.pointer (some ⟨bf, 0, none⟩), .int .u64 a1_1, .int .u64 a2_1, .slice AU u.length cAU] (by rfl) rfl rfl (by (try simp only [List.map_toArray, List.map_cons, List.map_nil]); first | done | rfl) ?_
  with_reducible refine (compact_RangeFactory_NewRange.calls ⟨bf, 0, none⟩ a1_1 a2_1 sz2 AU u.length cAU HZ.out.2.2.2.1 A4_.out HZ.out.2.2.2.2 _).mono ?_
  rintro e6 w13 ⟨by_, rfl, hbr, hge, hb⟩
  refine ⟨_, rfl, ?_⟩
  have Z2b := Aside0.mk (And.intro hge hb.size)
  have BY := Aside0.mk hbr
  have BF1 := Aside0.mk (blk_below BF.out hb)
  have BK51 := Aside0.mk (blk_below BK5.out hb)
  have BK61 := Aside0.mk (blk_below BK6.out hb)
  have BR1 := Aside0.mk (blk_below BR.out hb)
  have HO91 := Aside0.mk (Kd.S_below HO9.out hb)
  have HU1 := Aside0.mk (Kd.S_below HU.out hb)
  have HB1 := Aside0.mk (below_step HB.out hb)
  clear BF BK5 BK6 BR HO9 HU HB hb hbr hge
  have BF := BF1
  have BK5 := BK51
  have BK6 := BK61
  have BR := BR1
  have HO9 := HO91
  have HU := HU1
  have HB := HB1
  clear BF1 BK51 BK61 BR1 HO91 HU1 HB1
  refine hK.out _ _ ⟨(blk_cell BK5.out 0).trans rfl, (blk_cell BK5.out 1).trans rfl, (blk_cell BK5.out 2).trans rfl⟩ (fun hHeld => ?_)
  clear hK K
  refine norm_ (a' := ?_) ?_ ?_
  rotate_left
  · show Act.put _ (some 43) _ = _
    simp only [Act.put, List.setIfInBounds_toArray, List.set_cons_zero, List.set_cons_succ, i64_w, i32_w]
    rfl
  refine pure_ (i := 9) (N := (some 34)) (v := ?_) (a' := ?_) #[true, true, true, true, true, true, true, true, true, true, false, false, false, false] rfl rfl (any_of HT_.out (by kernel_rfl)) (fun _ _ _ h => h) (Or.inl ⟨by rfl, ?_⟩) ?_ ?_
  rotate_left
  · intro w'
    go_simp
    with_reducible rfl
  rotate_left
  · simp only [Act.put, List.setIfInBounds_toArray, List.set_cons_zero, List.set_cons_succ, i64_w, i32_w]
    rfl
  refine pure_ (i := 10) (N := (some 44)) (v := ?_) (a' := ?_) #[true, true, true, true, true, true, true, true, true, true, true, false, false, false] rfl rfl (any_of HT_.out (by kernel_rfl)) (fun _ _ _ h => h) (Or.inl ⟨by rfl, ?_⟩) ?_ ?_
  rotate_left
  · intro w'
    go_simp
    with_reducible rfl
  rotate_left
  · simp only [Act.put, List.setIfInBounds_toArray, List.set_cons_zero, List.set_cons_succ, i64_w, i32_w]
    rfl
  refine pure_ (i := 11) (N := (some 45)) (v := ?_) (a' := ?_) #[true, true, true, true, true, true, true, true, true, true, true, true, false, false] rfl rfl (any_of HT_.out (by kernel_rfl)) (fun _ _ _ h => h) (Or.inl ⟨by rfl, ?_⟩) ?_ ?_
  rotate_left
  · intro w'
    go_simp
    with_reducible rfl
  rotate_left
  · simp only [Act.put, List.setIfInBounds_toArray, List.set_cons_zero, List.set_cons_succ, i64_w, i32_w]
    rfl
  refine pure_ (i := 12) (N := (some 12)) (v := ?_) (a' := ?_) #[true, true, true, true, true, true, true, true, true, true, true, true, true, false] rfl rfl (any_of HT_.out (by kernel_rfl)) (fun _ _ _ h => h) (Or.inl ⟨by rfl, ?_⟩) ?_ ?_
  rotate_left
  · intro w'
    go_simp
    with_reducible rfl
  rotate_left
  · simp only [Act.put, List.setIfInBounds_toArray, List.set_cons_zero, List.set_cons_succ, i64_w, i32_w]
    rfl
  refine pure_ (i := 13) (N := (some 11)) (v := ?_) (a' := ?_) #[true, true, true, true, true, true, true, true, true, true, true, true, true, true] rfl rfl (any_of HT_.out (by kernel_rfl)) (fun _ _ _ h => h) (Or.inl ⟨by rfl, ?_⟩) ?_ ?_
  rotate_left
  · intro w'
    go_simp
    with_reducible rfl
  rotate_left
  · simp only [Act.put, List.setIfInBounds_toArray, List.set_cons_zero, List.set_cons_succ, i64_w, i32_w]
    rfl
  refine done_ (done_of HT_.out (by kernel_rfl)) ?_
  clear hHeld
  clear BK5
  go_wp2_with (first | ((with_reducible refine gate_dst (N := 13) rfl ?_); refine box_event ?hg (N := 13) ?hd (cs := #[.slice none 0 0]) (t := 43) ?hr ?_; (case hd => rfl); (case hg => rfl); (case hr => first | (go_simp; done) | (go_simp; rfl)); intro s hg w14 hbox hb; (have BS := Aside0.mk hbox); (have ZS := Aside0.mk (And.intro hg (And.intro (blk_lt BR.out) (And.intro (blk_lt BF.out) (And.intro (blk_lt BK6.out) HB.out.size))))); (have BF1 := Aside0.mk (blk_below BF.out hb)); (have BR1 := Aside0.mk (blk_below BR.out hb)); (have BY1 := Aside0.mk (blk_below BY.out hb)); (have BK61 := Aside0.mk (blk_below BK6.out hb)); (have HU1 := Aside0.mk (Kd.S_below HU.out hb)); (have HO91 := Aside0.mk (Kd.S_below HO9.out hb)); (have HB1 := Aside0.mk (below_step HB.out hb)); clear hbox hb hg HB BF BR BY BK6 HU HO9; have HB := HB1; have BF := BF1; have BR := BR1; have BY := BY1; have BK6 := BK61; have HU := HU1; have HO9 := HO91; clear HB1 BF1 BR1 BY1 BK61 HU1 HO91))
  have hv99 := impl_AppendRange_1.ok
  have hgr : GlobT w14 := hGT.below HB.out
  rcases u with _ | ⟨x, u⟩
  · have H := HH.out
    simp only at H
    obtain ⟨z, hA5, H⟩ := Option.bind_eq_some_iff.mp H
    simp only [Option.some.injEq, Prod.mk.injEq] at H
    obtain ⟨rfl, rfl, rfl, rfl, rfl⟩ := H
    have A5 := Aside0.mk hA5
    refine (compact_Range_AppendRange.calls0 bf br by_ 99 s a1_0 a1_1 a2_1 _ AU cAU w14 BR.out BY.out).mono ?_
    rintro e6 w15 ⟨rfl, hb⟩
    have HTC := Aside0.mk (And.intro (Kd.S_reads' HO9.out).2.1 (Kd.C_below (Kd.S_reads' HO9.out).2.2 hb))
    have HS := Aside0.mk (Seen.mk (w := w15) (s := s) (P := fun _ => True) (v := .slice none 0 0) (L := []) (blk_below BS.out hb) (Kd.S_nil _ _ _ _ _))
    have BR1 := Aside0.mk (blk_below BR.out hb)
    have BK61 := Aside0.mk (blk_below BK6.out hb)
    have HB1 := Aside0.mk (below_step HB.out hb)
    clear BR BK6 HB hb BF BY HU HO9 BS hA5 HH
    have BR := BR1
    have BK6 := BK61
    have HB := HB1
    clear BR1 BK61 HB1
    go_wp2
    · skip
      have BR1 := Aside0.mk (blk_drew BR.out)
      have HS1 := Aside0.mk (Seen.mk (blk_drew HS.out.cell) (Kd.S_drew HS.out.row))
      have BK61 := Aside0.mk (blk_drew BK6.out)
      have HB1 := Aside0.mk (below_drew1 HB.out)
      have HTC1 := Aside0.mk (And.intro HTC.out.1 (Kd.C_drew HTC.out.2))
      clear BR HS BK6 HB HTC
      have BR := BR1
      have HS := HS1
      have BK6 := BK61
      have HB := HB1
      have HTC := HTC1
      clear BR1 HS1 BK61 HB1 HTC1
      refine start_ (n := 6) (S := fun w' => w'.cell? ⟨s, 0, none⟩ = some (.slice none 0 0)) (ds := []) #[false, false, false, false, false, false] (by kernel_rfl) rfl rfl ((blk_cell HS.out.cell 0).trans rfl) (fun hHeld => ?_)
      refine with_tabW impl_AppendRange.tab12 impl_AppendRange.bits12 (fun HT_ HW_ => ?_)
      generalize w15.drew = w13_ at BR HS BK6 HB HTC hHeld ⊢
      refine pure_ (i := 0) (N := (some 56)) (v := ?_) (a' := ?_) #[true, false, false, false, false, false] rfl rfl (any_of HT_.out (by kernel_rfl)) (fun _ _ _ h => h) (Or.inl ⟨by rfl, ?_⟩) ?_ ?_
      rotate_left
      · intro w'
        go_simp
        with_reducible rfl
      rotate_left
      · simp only [Act.put, List.setIfInBounds_toArray, List.set_cons_zero, List.set_cons_succ, i64_w, i32_w]
        rfl
      refine take_ (i := 2) (N := (some 58)) (v := ?_) (a' := ?_) #[true, false, true, false, false, false] rfl rfl (take_ofW HT_.out HW_.out (by kernel_rfl)) (fun _ _ _ h => h) (Or.inl ⟨by rfl, ?_⟩) hHeld ?_ ?_
      rotate_left
      · intro w' s0
        go_simp
        with_reducible rfl
      rotate_left
      · simp only [Act.put, List.setIfInBounds_toArray, List.set_cons_zero, List.set_cons_succ, i64_w, i32_w]
        rfl
      refine one_ (i := 1) (N := (some 57)) #[true, true, true, false, false, false] rfl rfl (one_of HT_.out (by kernel_rfl)) (by decide) (fun K hK => ?_)
      refine goes_ Tryd.func91 (by kernel_rfl) rfl #[.pointer (some ⟨br, 0, none⟩)] (by rfl) rfl rfl (by (try simp only [List.map_toArray, List.map_cons, List.map_nil]); first | done | rfl) ?_
      with_reducible refine (impl_fromRange.calls k br bf a1_0 _ _ _ _ z _ BR.out HTC.out.2 HTC.out.1 A5.out).mono ?_
      rintro e6 w14 ⟨v14, rfl, ho, hb⟩
      refine ⟨_, rfl, ?_⟩
      obtain ⟨A14, c14, rfl⟩ := Kd.S_slice ho
      have HO14 := Aside0.mk (Kd.S_lower ho HB.out.size)
      have HS1 := Aside0.mk (HS.out.below hb)
      have BK61 := Aside0.mk (blk_below BK6.out hb)
      have HB1 := Aside0.mk (below_step HB.out hb)
      clear ho hb HS BK6 HB BR HTC
      have HS := HS1
      have BK6 := BK61
      have HB := HB1
      clear HS1 BK61 HB1
      refine hK.out _ _ ((blk_cell HS.out.cell 0).trans rfl) (fun hHeld => ?_)
      clear hK K
      refine norm_ (a' := ?_) ?_ ?_
      rotate_left
      · show Act.put _ (some 57) _ = _
        simp only [Act.put, List.setIfInBounds_toArray, List.set_cons_zero, List.set_cons_succ, i64_w, i32_w]
        rfl
      have hcz0 := (blk_cell BK6.out 0).trans rfl
      have hcz1 := (blk_cell BK6.out 1).trans rfl
      have hcz2 := (blk_cell BK6.out 2).trans rfl
      have hfz0 := blk_frozen BK6.out 0
      have hfz1 := blk_frozen BK6.out 1
      have hfz2 := blk_frozen BK6.out 2
      have hn6 : gb6 ≠ s := by have := ZS.out; omega
      refine one_ (i := 3) (N := none) #[true, true, true, true, false, false] rfl rfl (one_of HT_.out (by kernel_rfl)) (by decide) (fun K hK => ?_)
      refine skip_ (w1 := ?_) (by rfl) rfl ?_ ?_
      rotate_left
      · go_simp
        rfl
      refine hK.out _ _ ((cell_far (p := ⟨gb6, _, none⟩) hn6.symm _).trans ((cell_far (p := ⟨gb6, _, none⟩) hn6.symm _).trans ((cell_far (p := ⟨gb6, _, none⟩) hn6.symm _).trans hHeld))) (fun hHeld => ?_)
      clear hK K
      refine pure_ (i := 4) (N := (some 7)) (v := ?_) (a' := ?_) #[true, true, true, true, true, false] rfl rfl (any_of HT_.out (by kernel_rfl)) (fun _ _ _ h => h) (Or.inl ⟨by rfl, ?_⟩) ?_ ?_
      rotate_left
      · intro w'
        go_simp
        with_reducible rfl
      rotate_left
      · simp only [Act.put, List.setIfInBounds_toArray, List.set_cons_zero, List.set_cons_succ, i64_w, i32_w]
        rfl
      refine pure_ (i := 5) (N := (some 8)) (v := ?_) (a' := ?_) #[true, true, true, true, true, true] rfl rfl (any_of HT_.out (by kernel_rfl)) (fun _ _ _ h => h) (Or.inl ⟨by rfl, ?_⟩) ?_ ?_
      rotate_left
      · intro w'
        go_simp
        with_reducible rfl
      rotate_left
      · simp only [Act.put, List.setIfInBounds_toArray, List.set_cons_zero, List.set_cons_succ, i64_w, i32_w]
        rfl
      refine done_ (done_of HT_.out (by kernel_rfl)) ?_
      go_wp2
      refine bodyPost_ret (results_ctt rfl _ _ gb6 40 #[.int .u64 a1_0, .int .u64 a1_1, .slice A14 z.length c14] (0, 0) _ rfl (((blk_set (blk_set (blk_set BK6.out 0 _) 1 _) 2 _)).trans rfl) Tryd.underlying40 rfl (by kernel_rfl)) rfl ?_
      have r0 := Kd.S_far (p := ⟨gb6, 2, none⟩) (Kd.S_far (p := ⟨gb6, 1, none⟩) (Kd.S_far (p := ⟨gb6, 0, none⟩) (Kd.S_types HO14.out BK6.out (by decide)) (fun _ hk => hk.2) (.int .u64 a1_0)) (fun _ hk => hk.2) (.int .u64 a1_1)) (fun _ hk => hk.2) (.slice A14 z.length c14)
      have r1 := Kd.S_far (p := ⟨gb6, 2, none⟩) (Kd.S_far (p := ⟨gb6, 1, none⟩) (Kd.S_far (p := ⟨gb6, 0, none⟩) (Kd.S_types HS.out.row BK6.out (by decide)) (fun _ hk => hk.2) (.int .u64 a1_0)) (fun _ hk => hk.2) (.int .u64 a1_1)) (fun _ hk => hk.2) (.slice A14 z.length c14)
      exact ⟨_, _, rfl, S_toV r0 (Nat.le_refl _), S_toV r1 (by have := ZS.out; omega), ((HB.out.setCell GBK6.out _).setCell GBK6.out _).setCell GBK6.out _⟩
  · have H := HH.out
    simp only at H
    obtain ⟨⟨T1, L1⟩, hA5, H⟩ := Option.bind_eq_some_iff.mp H
    obtain ⟨z, hA6, H⟩ := Option.bind_eq_some_iff.mp H
    simp only [Option.some.injEq, Prod.mk.injEq] at H
    obtain ⟨rfl, rfl, rfl, rfl, rfl⟩ := H
    have A5 := Aside0.mk hA6
    obtain ⟨en, hen, HEN⟩ : ∃ en : Nat, a1_1 = (en : Int) ∧ Aside0 (a1_1.toNat = en) := ⟨a1_1.toNat, by have := HZ.out; omega, ⟨rfl⟩⟩
    rw [HEN.out] at hA5
    subst hen
    obtain ⟨low, hi0, hi, x0, ones, TT, i1, i2, q1, q2, q3, q4, q5, q6, q7, q8, q9, q10, q11, q13, q14⟩ := appR_inv hA5
    have HT := Aside0.mk (Kd.N_lower (Kd.N_mono (ok' := okA br s (.slice none 0 0)) (Kd.S_N (Kd.S_types (Kd.S_types HO9.out BR.out (by decide)) BS.out (by decide))) (fun k hk => ⟨hk.1.2, hk.2, by simp [Value.ownBlock]⟩)) (show w.heap.size ≤ w8.heap.size from Z1a.out.1))
    have HUF := Aside0.mk (Kd.F_mono (ok' := okB br s (.slice none 0 0) (.slice A9 t.length cA9)) (Kd.S_F (Kd.S_bound (Kd.S_types (Kd.S_types HU.out BR.out (by decide)) BS.out (by decide)))) (fun k hk => ⟨⟨hk.1.1.2, hk.1.2, by simp [Value.ownBlock]⟩, fun he => by have := Z2a.out k he.symm; have := hk.2.1; omega⟩))
    have HUC := Aside0.mk (Kd.S_reads' HU.out).2.1
    refine (compact_Range_AppendRange.calls k a0_0 a0_1 a0_2 a0_3 a0_4 a0_5 bf br by_ s w.heap.size low hi0 hi x0 ones a1_0 en a2_1 99 hv99 cA9 cAU A9 AU t u x (.slice none 0 0) [] TT i1 i2 L1 w14 hgr q1 q2 q3 q4 q5 q6 q7 q8 q9 q10 q11 (by simp) q13 BF.out BR.out BY.out HT.out HUC.out HUF.out ⟨BS.out, Kd.S_nil _ _ _ _ _⟩ (by have := ZS.out; omega) (by have := ZS.out; omega) HB.out.size).mono ?_
    rintro e6 w15 ⟨A15, c15, vs15, rfl, p1, p2, p3, p4, p5⟩
    have hT1 : T1 = t.take i1 ++ [TT] ++ u.drop i2 := q14
    rw [← hT1] at p2 p3 p4
    have n1 : some gb6 ≠ (Value.slice A9 t.length cA9).ownBlock := Kd.N_ne HT.out BK6.out (by decide)
    have w6 : w15.heap[gb6]? = some (.cells #[.int .u64 0, .int .u64 0, .slice none 0 0] 40 (0, 0)) := blk_kept BK6.out p5.1 (fun hk => by
      rcases hk with h | h | h | h
      · exact absurd (h ▸ BK6.out) (fun h2 => by have h3 := h2.symm.trans BR.out; injection h3 with h3; injection h3 with h3 h4; exact absurd h4 (by decide))
      · have := ZS.out; omega
      · simp [Value.ownBlock] at h
      · exact n1 h)
    have wB : Below w.heap.size w w15 := HB.out.trans (KeptB.to_below p5 (fun k hk => by
      rcases hk with h | h | h | h
      · have h1 := Z1a.out; have h2 := Z1b.out; omega
      · have := ZS.out; omega
      · simp [Value.ownBlock] at h
      · exact Kd.N_base HT.out k h.symm) HB.out.size)
    have HTC := Aside0.mk (Kd.N_reads' p3).2
    have HS := Aside0.mk p4
    have BR1 := Aside0.mk p2
    have BK61 := Aside0.mk w6
    have HB1 := Aside0.mk wB
    clear BR BK6 HB BF BY HU HO9 BS hA5 hA6 HH HT HUF HUC p1 p2 p3 p4 p5 w6 wB n1 q1 q4 q6 q7 q13 q14
    have BR := BR1
    have BK6 := BK61
    have HB := HB1
    clear BR1 BK61 HB1
    go_wp2
    · skip
      have BR1 := Aside0.mk (blk_drew BR.out)
      have HS1 := Aside0.mk (Seen.mk (blk_drew HS.out.cell) (Kd.S_drew HS.out.row))
      have BK61 := Aside0.mk (blk_drew BK6.out)
      have HB1 := Aside0.mk (below_drew1 HB.out)
      have HTC1 := Aside0.mk (And.intro HTC.out.1 (Kd.C_drew HTC.out.2))
      clear BR HS BK6 HB HTC
      have BR := BR1
      have HS := HS1
      have BK6 := BK61
      have HB := HB1
      have HTC := HTC1
      clear BR1 HS1 BK61 HB1 HTC1
      refine start_ (n := 6) (S := fun w' => w'.cell? ⟨s, 0, none⟩ = some vs15) (ds := []) #[false, false, false, false, false, false] (by kernel_rfl) rfl rfl ((blk_cell HS.out.cell 0).trans rfl) (fun hHeld => ?_)
      refine with_tabW impl_AppendRange.tab12 impl_AppendRange.bits12 (fun HT_ HW_ => ?_)
      generalize w15.drew = w13_ at BR HS BK6 HB HTC hHeld ⊢
      refine pure_ (i := 0) (N := (some 56)) (v := ?_) (a' := ?_) #[true, false, false, false, false, false] rfl rfl (any_of HT_.out (by kernel_rfl)) (fun _ _ _ h => h) (Or.inl ⟨by rfl, ?_⟩) ?_ ?_
      rotate_left
      · intro w'
        go_simp
        with_reducible rfl
      rotate_left
      · simp only [Act.put, List.setIfInBounds_toArray, List.set_cons_zero, List.set_cons_succ, i64_w, i32_w]
        rfl
      refine take_ (i := 2) (N := (some 58)) (v := ?_) (a' := ?_) #[true, false, true, false, false, false] rfl rfl (take_ofW HT_.out HW_.out (by kernel_rfl)) (fun _ _ _ h => h) (Or.inl ⟨by rfl, ?_⟩) hHeld ?_ ?_
      rotate_left
      · intro w' s0
        go_simp
        with_reducible rfl
      rotate_left
      · simp only [Act.put, List.setIfInBounds_toArray, List.set_cons_zero, List.set_cons_succ, i64_w, i32_w]
        rfl
      refine one_ (i := 1) (N := (some 57)) #[true, true, true, false, false, false] rfl rfl (one_of HT_.out (by kernel_rfl)) (by decide) (fun K hK => ?_)
      refine goes_ Tryd.func91 (by kernel_rfl) rfl #[.pointer (some ⟨br, 0, none⟩)] (by rfl) rfl rfl (by (try simp only [List.map_toArray, List.map_cons, List.map_nil]); first | done | rfl) ?_
      with_reducible refine (impl_fromRange.calls k br bf a1_0 _ _ _ _ z _ BR.out HTC.out.2 HTC.out.1 A5.out).mono ?_
      rintro e6 w14 ⟨v14, rfl, ho, hb⟩
      refine ⟨_, rfl, ?_⟩
      obtain ⟨A14, c14, rfl⟩ := Kd.S_slice ho
      have HO14 := Aside0.mk (Kd.S_lower ho HB.out.size)
      have HS1 := Aside0.mk (HS.out.below hb)
      have BK61 := Aside0.mk (blk_below BK6.out hb)
      have HB1 := Aside0.mk (below_step HB.out hb)
      clear ho hb HS BK6 HB BR HTC
      have HS := HS1
      have BK6 := BK61
      have HB := HB1
      clear HS1 BK61 HB1
      refine hK.out _ _ ((blk_cell HS.out.cell 0).trans rfl) (fun hHeld => ?_)
      clear hK K
      refine norm_ (a' := ?_) ?_ ?_
      rotate_left
      · show Act.put _ (some 57) _ = _
        simp only [Act.put, List.setIfInBounds_toArray, List.set_cons_zero, List.set_cons_succ, i64_w, i32_w]
        rfl
      have hcz0 := (blk_cell BK6.out 0).trans rfl
      have hcz1 := (blk_cell BK6.out 1).trans rfl
      have hcz2 := (blk_cell BK6.out 2).trans rfl
      have hfz0 := blk_frozen BK6.out 0
      have hfz1 := blk_frozen BK6.out 1
      have hfz2 := blk_frozen BK6.out 2
      have hn6 : gb6 ≠ s := by have := ZS.out; omega
      refine one_ (i := 3) (N := none) #[true, true, true, true, false, false] rfl rfl (one_of HT_.out (by kernel_rfl)) (by decide) (fun K hK => ?_)
      refine skip_ (w1 := ?_) (by rfl) rfl ?_ ?_
      rotate_left
      · go_simp
        rfl
      refine hK.out _ _ ((cell_far (p := ⟨gb6, _, none⟩) hn6.symm _).trans ((cell_far (p := ⟨gb6, _, none⟩) hn6.symm _).trans ((cell_far (p := ⟨gb6, _, none⟩) hn6.symm _).trans hHeld))) (fun hHeld => ?_)
      clear hK K
      refine pure_ (i := 4) (N := (some 7)) (v := ?_) (a' := ?_) #[true, true, true, true, true, false] rfl rfl (any_of HT_.out (by kernel_rfl)) (fun _ _ _ h => h) (Or.inl ⟨by rfl, ?_⟩) ?_ ?_
      rotate_left
      · intro w'
        go_simp
        with_reducible rfl
      rotate_left
      · simp only [Act.put, List.setIfInBounds_toArray, List.set_cons_zero, List.set_cons_succ, i64_w, i32_w]
        rfl
      refine pure_ (i := 5) (N := (some 8)) (v := ?_) (a' := ?_) #[true, true, true, true, true, true] rfl rfl (any_of HT_.out (by kernel_rfl)) (fun _ _ _ h => h) (Or.inl ⟨by rfl, ?_⟩) ?_ ?_
      rotate_left
      · intro w'
        go_simp
        with_reducible rfl
      rotate_left
      · simp only [Act.put, List.setIfInBounds_toArray, List.set_cons_zero, List.set_cons_succ, i64_w, i32_w]
        rfl
      refine done_ (done_of HT_.out (by kernel_rfl)) ?_
      go_wp2
      refine bodyPost_ret (results_ctt rfl _ _ gb6 40 #[.int .u64 a1_0, .int .u64 a2_1, .slice A14 z.length c14] (0, 0) _ rfl (((blk_set (blk_set (blk_set BK6.out 0 _) 1 _) 2 _)).trans rfl) Tryd.underlying40 rfl (by kernel_rfl)) rfl ?_
      have r0 := Kd.S_far (p := ⟨gb6, 2, none⟩) (Kd.S_far (p := ⟨gb6, 1, none⟩) (Kd.S_far (p := ⟨gb6, 0, none⟩) (Kd.S_types HO14.out BK6.out (by decide)) (fun _ hk => hk.2) (.int .u64 a1_0)) (fun _ hk => hk.2) (.int .u64 a2_1)) (fun _ hk => hk.2) (.slice A14 z.length c14)
      have r1 := Kd.S_far (p := ⟨gb6, 2, none⟩) (Kd.S_far (p := ⟨gb6, 1, none⟩) (Kd.S_far (p := ⟨gb6, 0, none⟩) (Kd.S_types HS.out.row BK6.out (by decide)) (fun _ hk => hk.2) (.int .u64 a1_0)) (fun _ hk => hk.2) (.int .u64 a2_1)) (fun _ hk => hk.2) (.slice A14 z.length c14)
      exact ⟨_, _, rfl, S_toV r0 (Nat.le_refl _), S_toV r1 (by have := ZS.out; omega), ((HB.out.setCell GBK6.out _).setCell GBK6.out _).setCell GBK6.out _⟩
def groot (k : Nat) (h0 h1 h2 h3 h4 h5 : Int) : List S40 → S40 → Option S40
  | [], a => some a
  | x :: l, a => (impl_AppendRange.f k h0 h1 h2 h3 h4 h5 a.f0 a.f1 a.f2 x.f0 x.f1 x.f2).bind fun r => if r.2.2.2.2 = true then groot k h0 h1 h2 h3 h4 h5 l ⟨r.1, r.2.1, r.2.2.1⟩ else none
theorem groot_mono (k : Nat) (h0 h1 h2 h3 h4 h5 : Int) : ∀ l a, LeO (groot k h0 h1 h2 h3 h4 h5 l a) (groot (k + 1) h0 h1 h2 h3 h4 h5 l a)
  | [], _ => LeO.refl _
  | _ :: l, _ => LeO.bind (impl_AppendRange.mono _ _ _ _ _ _ _ _ _ _ _ _ _) fun _ => LeO.ite (groot_mono k h0 h1 h2 h3 h4 h5 l _) (LeO.none _)
def laws_growthRoot.f (k : Nat) (h0 h1 h2 h3 h4 h5 : Int) (l : List S40) : Option (List Int × Bool) :=
  if 0 < l.length ∧ l.length ≤ 100000 then (groot k h0 h1 h2 h3 h4 h5 (l.drop 1) (l.getD 0 z40)).bind fun a => (impl_RootHash.f k h0 h1 h2 h3 h4 h5 a.f0 a.f1 a.f2).bind fun z => some (z.1, z.2.2) else none
theorem laws_growthRoot.mono (h0 h1 h2 h3 h4 h5 : Int) (l : List S40) : ∀ k, LeO (laws_growthRoot.f k h0 h1 h2 h3 h4 h5 l) (laws_growthRoot.f (k + 1) h0 h1 h2 h3 h4 h5 l) := by
  intro k
  unfold laws_growthRoot.f
  exact LeO.ite (LeO.bind (groot_mono _ _ _ _ _ _ _ _ _) fun r => LeO.bind (impl_RootHash.mono _ _ _ _ _ _ _ _ _ _) fun z => LeO.refl _) (LeO.none _)
theorem F_new {α : Type} {d : Kd α} {w w1 : World} {A : Option Addr} {n : Nat} {xs : List α} (h : Kd.F d w (fun k => k < w.heap.size) A n xs) (hb : Below w.heap.size w w1) : Kd.F d w1 (fun k => k < w.heap.size) A n xs := Kd.F_step h (fun k hk _ => hb.block k hk)
theorem set3 {w : World} {g t : Nat} {z0 z1 z2 : Value} (h : w.heap[g]? = some (.cells #[z0, z1, z2] t (0, 0))) (a b c : Value) : (((w.setCell ⟨g, 0, none⟩ a).setCell ⟨g, 1, none⟩ b).setCell ⟨g, 2, none⟩ c).heap[g]? = some (.cells #[a, b, c] t (0, 0)) :=
  (blk_set (blk_set (blk_set h 0 a) 1 b) 2 c).trans rfl
theorem far3 {w : World} {g g' : Nat} {t : TypeId} {cs : Array Value} (h : w.heap[g']? = some (.cells cs t (0, 0))) (hne : g' ≠ g) (a b c : Value) : (((w.setCell ⟨g, 0, none⟩ a).setCell ⟨g, 1, none⟩ b).setCell ⟨g, 2, none⟩ c).heap[g']? = some (.cells cs t (0, 0)) := blk_far (blk_far (blk_far h hne a) hne b) hne c
theorem below3 {w0 w : World} {g : Nat} (h : Below w0.heap.size w0 w) (hg : w0.heap.size ≤ g) (a b c : Value) : Below w0.heap.size w0 (((w.setCell ⟨g, 0, none⟩ a).setCell ⟨g, 1, none⟩ b).setCell ⟨g, 2, none⟩ c) := ((h.setCell hg a).setCell hg b).setCell hg c
theorem F_far3 {α : Type} {d : Kd α} {w : World} {g : Nat} {A : Option Addr} {n : Nat} {xs : List α} {ok : Nat → Prop} (h : Kd.F d w ok A n xs) (hok : ∀ k, ok k → k ≠ g) (a b c : Value) : Kd.F d (((w.setCell ⟨g, 0, none⟩ a).setCell ⟨g, 1, none⟩ b).setCell ⟨g, 2, none⟩ c) ok A n xs := Kd.F_far (p := ⟨g, 2, none⟩) (Kd.F_far (p := ⟨g, 1, none⟩) (Kd.F_far (p := ⟨g, 0, none⟩) h hok a) hok b) hok c
theorem heap_k40 : Kd.Heap k40 := Kd.heap_iso _ (Kd.heap_pair (Kd.heap_int _) (Kd.heap_pair (Kd.heap_int _) (Kd.heap_slice _ (Kd.heap_slice _ (Kd.heap_int _)))))
theorem f40_at {W : World} {ok : Nat → Prop} {A : Option Addr} {n : Nat} {xs : List S40} (h : Kd.F k40 W ok A n xs) (i : Nat) (h1 : i < n) :
    ∃ ad A2 c2, A = some ad ∧ W.cell? (ad.add (i * 3)) = some (.int .u64 (xs.getD i z40).f0) ∧ W.cell? ⟨(ad.add (i * 3)).block, (ad.add (i * 3)).off + 1, none⟩ = some (.int .u64 (xs.getD i z40).f1) ∧ W.cell? ⟨(ad.add (i * 3)).block, (ad.add (i * 3)).off + 2, none⟩ = some (.slice A2 (xs.getD i z40).f2.length c2) ∧ (xs.getD i z40).f2.length ≤ c2 ∧ Kd.F (Kd.slice 5 (Kd.int .u8)) W ok A2 (xs.getD i z40).f2.length (xs.getD i z40).f2 := by
  obtain ⟨ad, c', hA, hcl, hf, hcc, _⟩ := Kd.F_get h z40 (i : Int) (by omega) (by omega)
  rw [Int.toNat_natCast] at hf
  obtain ⟨A2, c2, rfl, hl, hF⟩ := k40_openF hf
  have e0 := hcc 0 _ rfl
  have e1 := hcc 1 _ rfl
  have e2 := hcc 2 _ rfl
  rw [show k40.sz = 3 from rfl, Int.toNat_natCast] at e0 e1 e2
  exact ⟨ad, A2, c2, hA, e0, by rw [← add_field _ _ 1 (by omega)]; exact e1, by rw [← add_field _ _ 2 (by omega)]; exact e2, hl, hF⟩
set_option maxHeartbeats 8000000 in
set_option maxRecDepth 100000 in
theorem laws_growthRoot.calls (k : Nat) (a0_0 : Int) (a0_1 : Int) (a0_2 : Int) (a0_3 : Int) (a0_4 : Int) (a0_5 : Int) (A1 : Option Addr) (c1 : Nat) (l1 : List S40) (r1 : List Int) (r2 : Bool) (w : World) (hGT : GlobT w) (hr1 : Kd.C k40 w A1 l1.length l1) (hc1 : l1.length ≤ c1) (h : laws_growthRoot.f k a0_0 a0_1 a0_2 a0_3 a0_4 a0_5 l1 = some (r1, r2)) :
    Calls Tryd.prog 51 #[.agg #[.int .i64 a0_0, .int .i64 a0_1, .int .i64 a0_2, .int .u64 a0_3, .int .u64 a0_4, .int .u64 a0_5], .slice A1 l1.length c1] w fun e w' => ∃ v0_ : Value, e = .returned (.tuple #[v0_, .bool r2]) ∧ Kd.R (Kd.int .u8) 5 w' w.heap.size (fun _ => True) v0_ r1 ∧ Below w.heap.size w w' := by
  have hu37 := Tryd.underlying37
  have hu40 := Tryd.underlying40
  have hu84 := Tryd.underlying84
  have HL := Aside0.mk (Kd.C_F heap_k40 hr1)
  have HB := Aside0.mk (Below.refl w.heap.size w)
  clear hr1
  unfold laws_growthRoot.f at h
  by_cases hl : 0 < l1.length ∧ l1.length ≤ 100000
  case neg => rw [if_neg hl] at h; cases h
  rw [if_pos hl] at h
  replace h := Option.bind_eq_some_iff.mp h
  obtain ⟨aZ, hA1, H⟩ := h
  replace H := Option.bind_eq_some_iff.mp H
  obtain ⟨⟨rt, vz, okR⟩, hA2, H⟩ := H
  simp only [Option.some.injEq, Prod.mk.injEq] at H
  obtain ⟨rfl, rfl⟩ := H
  obtain ⟨hl0, hl1⟩ := hl
  obtain ⟨ad, A4, c4, eA1, hx0, hx1, hx2, hl4, hF4⟩ := f40_at HL.out 0 hl0
  generalize l1.getD 0 z40 = x0 at hA1 hx0 hx1 hx2 hl4 hF4
  subst eA1
  have ead : ad.add (0 * 3) = ad := by unfold Addr.add; first | rfl | (split <;> simp)
  rw [ead] at hx0 hx1 hx2
  have A1_ := Aside0.mk hA1
  have A2_ := Aside0.mk hA2
  have HL4 := Aside0.mk hl4
  have HF4 := Aside0.mk hF4
  have HL0 := Aside0.mk hl0
  clear hA1 hA2 hl4 hF4
  have li : ((0 : Int) < (l1.length : Int)) = True := eq_true (by omega)
  have li2 : (0 < l1.length) = True := eq_true (by omega)
  obtain ⟨i0_, hi0_, _, hsz_, _⟩ := info_parts info40
  have hcut := cut_from (P := Tryd.prog) 84 40 .i64 Tryd.underlying84 hi0_ 3 hsz_ (some ad) l1.length c1 (1 : Int) (by omega) (by omega)
  rw [show (1 : Int).toNat = 1 from rfl] at hcut
  have hcF := Kd.F_cut (m := 1) (c := c1) HL.out (by omega) hc1
  obtain ⟨A6, hA6⟩ : ∃ A6, A6 = (if c1 = 1 then some ad else (some ad).map (·.add (1 * 3))) := ⟨_, rfl⟩
  rw [← hA6] at hcut
  rw [show k40.sz = 3 from rfl, ← hA6] at hcF
  obtain ⟨mn, hmn⟩ : ∃ mn, l1.drop 1 = mn := ⟨_, rfl⟩
  rw [show l1.length - 1 = (l1.drop 1).length by rw [List.length_drop]] at hcut
  have A1b := Aside0.mk (hmn ▸ A1_.out)
  rw [hmn] at hcut hcF
  have HMN := Aside0.mk hcF
  have HMS := Aside0.mk (show mn.length + 1 = l1.length by rw [← hmn, List.length_drop]; omega)
  clear hA6 hcF hi0_ hsz_ A1_ hmn
  go_enter Tryd.func51, Tryd.ntmps51
  go_wp2_with (first | ((with_reducible refine gate_dst (N := 2) rfl ?_); refine box_event ?hg (N := 2) ?hd (cs := #[.int .i64 a0_0, .int .i64 a0_1, .int .i64 a0_2, .int .u64 a0_3, .int .u64 a0_4, .int .u64 a0_5]) (t := 37) ?hr ?_; (case hd => rfl); (case hg => rfl); (case hr => first | (go_simp; done) | (go_simp; rfl)); intro gb2 hg w3 hbox hb; (have BK2 := Aside0.mk hbox); (have HB1 := Aside0.mk (below_step HB.out hb)); (have hy0 := (hb.cell (World.block_lt_of_cell? _ _ hx0)).trans hx0); (have hy1 := (hb.cell (World.block_lt_of_cell? _ _ hx1)).trans hx1); (have hy2 := (hb.cell (World.block_lt_of_cell? _ _ hx2)).trans hx2); clear hbox hb hg HB hx0 hx1 hx2; have HB := HB1; clear HB1) | ((with_reducible refine gate_dst (N := 6) rfl ?_); refine box_event ?hg (N := 6) ?hd (cs := #[.int .u64 0, .int .u64 0, .slice none 0 0]) (t := 40) ?hr ?_; (case hd => rfl); (case hg => rfl); (case hr => first | (go_simp; done) | (go_simp; rfl)); intro gb6 hg w4 hbox hb; (have BK6 := Aside0.mk hbox); (have G6 := Aside0.mk (show w.heap.size ≤ gb6 by rw [hg]; exact HB.out.size)); (have BK21 := Aside0.mk (blk_below BK2.out hb)); (have N26 := Aside0.mk (show gb2 ≠ gb6 by have := blk_lt BK2.out; omega)); (have HB1 := Aside0.mk (below_step HB.out hb)); clear hbox hb hg HB BK2 hy0 hy1 hy2; have HB := HB1; have BK2 := BK21; clear HB1 BK21; have hcz_0 := (blk_cell BK6.out 0).trans rfl; have hcz_1 := (blk_cell BK6.out 1).trans rfl; have hcz_2 := (blk_cell BK6.out 2).trans rfl; have hfz_0 := blk_frozen BK6.out 0; have hfz_1 := blk_frozen BK6.out 1; have hfz_2 := blk_frozen BK6.out 2; skip))
  have hn4 : ∀ k, k < w.heap.size → k ≠ gb6 := fun k hk => by have := G6.out; omega
  have BK61 := Aside0.mk (set3 BK6.out (.int .u64 x0.f0) (.int .u64 x0.f1) (.slice A4 x0.f2.length c4))
  have BK21 := Aside0.mk (far3 BK2.out N26.out (.int .u64 x0.f0) (.int .u64 x0.f1) (.slice A4 x0.f2.length c4))
  have HB1 := Aside0.mk (below3 HB.out G6.out (.int .u64 x0.f0) (.int .u64 x0.f1) (.slice A4 x0.f2.length c4))
  have HA1 := Aside0.mk (Kd.F_mono (ok' := fun k => k ≠ gb6) (F_far3 (F_new HF4.out HB.out) hn4 (.int .u64 x0.f0) (.int .u64 x0.f1) (.slice A4 x0.f2.length c4)) hn4)
  clear BK6 BK2 HB HF4 hcz_0 hcz_1 hcz_2 hfz_0 hfz_1 hfz_2
  try simp only [Act.put, List.setIfInBounds_toArray, List.set_cons_zero, List.set_cons_succ]
  go_loopg [7, 22] mn.length (fun kq v7 v22 w' => ∃ (i : Nat) (a : S40) (A : Option Addr) (c : Nat), v7 = .bool true ∧ v22 = .int .i64 (i : Int) ∧ Aside0 (i + kq = mn.length) ∧ Aside0 (a.f2.length ≤ c) ∧ Aside0 (groot k a0_0 a0_1 a0_2 a0_3 a0_4 a0_5 (mn.drop i) a = some aZ) ∧ Aside0 (w'.heap[gb2]? = some (.cells #[.int .i64 a0_0, .int .i64 a0_1, .int .i64 a0_2, .int .u64 a0_3, .int .u64 a0_4, .int .u64 a0_5] 37 (0, 0))) ∧ Aside0 (w'.heap[gb6]? = some (.cells #[.int .u64 a.f0, .int .u64 a.f1, .slice A a.f2.length c] 40 (0, 0))) ∧ Aside0 (Kd.F (Kd.slice 5 (Kd.int .u8)) w' (fun k => k ≠ gb6) A a.f2.length a.f2) ∧ Aside0 (Below w.heap.size w w'))
  case atStart => exact ⟨0, x0, A4, c4, rfl, rfl, ⟨by omega⟩, HL4, ⟨by rw [List.drop_zero]; exact A1b.out⟩, BK21, BK61, HA1, HB1⟩
  case round =>
    clear BK21 BK61 HA1 HB1 A1b HL4
    obtain ⟨i, a, A, c, rfl, rfl, HI, HAC, HG, BK2, BK6, HA, HB⟩ := hrel
    by_cases hi : i < mn.length
    case neg =>
      have cz : decide ((i : Int) < (mn.length : Int)) = false := decide_eq_false (by omega)
      have cz' : decide (i < mn.length) = false := decide_eq_false hi
      have H := HG.out
      rw [List.drop_eq_nil_of_le (by omega)] at H
      simp only [groot, Option.some.injEq] at H
      have A2w := Aside0.mk (H ▸ A2_.out)
      clear H HG
      have h6_0 := (blk_cell BK6.out 0).trans rfl
      have h6_1 := (blk_cell BK6.out 1).trans rfl
      have h6_2 := (blk_cell BK6.out 2).trans rfl
      have h2_0 := (blk_cell BK2.out 0).trans rfl
      have h2_1 := (blk_cell BK2.out 1).trans rfl
      have h2_2 := (blk_cell BK2.out 2).trans rfl
      have h2_3 := (blk_cell BK2.out 3).trans rfl
      have h2_4 := (blk_cell BK2.out 4).trans rfl
      have h2_5 := (blk_cell BK2.out 5).trans rfl
      go_wp2_with (first | (go_at_call 23; (refine (impl_RootHash.calls k a0_0 a0_1 a0_2 a0_3 a0_4 a0_5 a.f0 a.f1 A c a.f2 rt vz okR _ (hGT.below HB.out) (Kd.F_now HA.out) HAC.out A2w.out).mono ?_); rintro e8 w8 ⟨v8, u8, rfl, ho8, hu8, hb8⟩; (have HO8 := Aside0.mk (Kd.R_lower ho8 HB.out.size)); (have HB8 := Aside0.mk (below_step HB.out hb8)); clear ho8 hu8 hb8))
      go_ret2
      exact ⟨_, rfl, HO8.out, HB8.out⟩
    case pos =>
      have cz : decide ((i : Int) < (mn.length : Int)) = true := decide_eq_true (by omega)
      have cz' : decide (i < mn.length) = true := decide_eq_true hi
      have li : ((i : Int) < (mn.length : Int)) = True := eq_true (by omega)
      have li0 : ((0 : Int) ≤ (i : Int)) = True := eq_true (by omega)
      have H := HG.out
      rw [List.drop_eq_getElem_cons hi] at H
      rw [show mn[i] = mn.getD i z40 by rw [List.getD_eq_getElem?_getD, List.getElem?_eq_getElem hi]; rfl] at H
      obtain ⟨ad2, A5, c5, eA5, hx0, hx1, hx2, hl5, hF5⟩ := f40_at (F_new HMN.out HB.out) i hi
      generalize mn.getD i z40 = x at H hx0 hx1 hx2 hl5 hF5
      subst eA5
      simp only [groot] at H
      obtain ⟨⟨q0, q1, q2, q3, q4⟩, hR, H⟩ := Option.bind_eq_some_iff.mp H
      simp only at H
      by_cases hok : q4 = true
      case neg => rw [if_neg hok] at H; cases H
      rw [if_pos hok] at H
      subst hok
      have HR := Aside0.mk hR
      have HG1 := Aside0.mk H
      have HL5 := Aside0.mk hl5
      have HF5 := Aside0.mk hF5
      have N26b := Aside0.mk N26.out
      clear H hR hl5 hF5 HG
      go_wp2_with (first | ((with_reducible refine gate_dst (N := 9) rfl ?_); refine box_event ?hg (N := 9) ?hd (cs := #[.int .u64 0, .int .u64 0, .slice none 0 0]) (t := 40) ?hr ?_; (case hd => rfl); (case hg => rfl); (case hr => first | (go_simp; done) | (go_simp; rfl)); intro gb9 hg w9 hbox hb; have hcz_0 := (blk_cell hbox 0).trans rfl; have hcz_1 := (blk_cell hbox 1).trans rfl; have hcz_2 := (blk_cell hbox 2).trans rfl; have hfz_0 := blk_frozen hbox 0; have hfz_1 := blk_frozen hbox 1; have hfz_2 := blk_frozen hbox 2; have n26 : gb2 ≠ gb9 := (by have := blk_lt BK2.out; omega); have n69 : gb6 ≠ gb9 := (by have := blk_lt BK6.out; omega); have g9 : w.heap.size ≤ gb9 := (by rw [hg]; exact HB.out.size); have BK91 := Aside0.mk (set3 hbox (.int .u64 x.f0) (.int .u64 x.f1) (.slice A5 x.f2.length c5)); have BK61 := Aside0.mk (far3 (blk_below BK6.out hb) n69 (.int .u64 x.f0) (.int .u64 x.f1) (.slice A5 x.f2.length c5)); have BK21 := Aside0.mk (far3 (blk_below BK2.out hb) n26 (.int .u64 x.f0) (.int .u64 x.f1) (.slice A5 x.f2.length c5)); have HB1 := Aside0.mk (below3 (below_step HB.out hb) g9 (.int .u64 x.f0) (.int .u64 x.f1) (.slice A5 x.f2.length c5)); have HA1 := Aside0.mk (F_far3 (g := gb9) (F_belowR (Kd.F_bound HA.out) hb) (fun k hk => by have := hk.2; omega) (.int .u64 x.f0) (.int .u64 x.f1) (.slice A5 x.f2.length c5)); have HX1 := Aside0.mk (F_far3 (g := gb9) (F_belowR HF5.out hb) (fun k hk => by omega) (.int .u64 x.f0) (.int .u64 x.f1) (.slice A5 x.f2.length c5)); clear hx0 hx1 hx2 hg hb hbox n26 n69 g9 HF5 BK2 BK6 HB HA; have h9_0 := (blk_cell BK91.out 0).trans rfl; have h9_1 := (blk_cell BK91.out 1).trans rfl; have h9_2 := (blk_cell BK91.out 2).trans rfl; have h6_0 := (blk_cell BK61.out 0).trans rfl; have h6_1 := (blk_cell BK61.out 1).trans rfl; have h6_2 := (blk_cell BK61.out 2).trans rfl; have h2_0 := (blk_cell BK21.out 0).trans rfl; have h2_1 := (blk_cell BK21.out 1).trans rfl; have h2_2 := (blk_cell BK21.out 2).trans rfl; have h2_3 := (blk_cell BK21.out 3).trans rfl; have h2_4 := (blk_cell BK21.out 4).trans rfl; have h2_5 := (blk_cell BK21.out 5).trans rfl) | (go_at_call 46; (refine (impl_AppendRange.calls k a0_0 a0_1 a0_2 a0_3 a0_4 a0_5 a.f0 a.f1 A c a.f2 x.f0 x.f1 A5 c5 x.f2 q0 q1 q2 q3 true _ (hGT.below HB1.out) (Kd.F_now HA1.out) HAC.out (Kd.F_now HX1.out) HL5.out HR.out).mono ?_); rintro e11 w11 ⟨v11, u11, rfl, ho11, hu11, hb11⟩; (obtain ⟨AQ, cq, rfl⟩ := Kd.V_slice ho11); (have HQC := Aside0.mk (Kd.V_at ho11).2.1); (have HQ := Aside0.mk (Kd.F_mono (ok' := fun k => k ≠ gb6) (Kd.V_F ho11) (fun k hk => by have := blk_lt BK61.out; omega))); (have BK6 := Aside0.mk (blk_below BK61.out hb11)); (have BK2 := Aside0.mk (blk_below BK21.out hb11)); (have HB := Aside0.mk (below_step HB1.out hb11)); clear ho11 hu11 hb11 BK61 BK21 BK91 HB1 HA1 HX1 hcz_0 hcz_1 hcz_2 hfz_0 hfz_1 hfz_2 h9_0 h9_1 h9_2 h6_0 h6_1 h6_2 h2_0 h2_1 h2_2 h2_3 h2_4 h2_5) | ((with_reducible refine gate_dst (N := 10) rfl ?_); refine box_event ?hg (N := 10) ?hd (cs := #[.int .u64 0, .int .u64 0, .slice none 0 0]) (t := 40) ?hr ?_; (case hd => rfl); (case hg => rfl); (case hr => first | (go_simp; done) | (go_simp; rfl)); intro gb10 hg w10 hbox hb; have hcz_0 := (blk_cell hbox 0).trans rfl; have hcz_1 := (blk_cell hbox 1).trans rfl; have hcz_2 := (blk_cell hbox 2).trans rfl; have hfz_0 := blk_frozen hbox 0; have hfz_1 := blk_frozen hbox 1; have hfz_2 := blk_frozen hbox 2; have n2 : gb2 ≠ gb10 := (by have := blk_lt BK2.out; omega); have n6 : gb6 ≠ gb10 := (by have := blk_lt BK6.out; omega); have g10 : w.heap.size ≤ gb10 := (by rw [hg]; exact HB.out.size); have BK101 := Aside0.mk (set3 hbox (.int .u64 q0) (.int .u64 q1) (.slice AQ q2.length cq)); have BK61 := Aside0.mk (far3 (blk_below BK6.out hb) n6 (.int .u64 q0) (.int .u64 q1) (.slice AQ q2.length cq)); have BK21 := Aside0.mk (far3 (blk_below BK2.out hb) n2 (.int .u64 q0) (.int .u64 q1) (.slice AQ q2.length cq)); have HB1 := Aside0.mk (below3 (below_step HB.out hb) g10 (.int .u64 q0) (.int .u64 q1) (.slice AQ q2.length cq)); have HQ1 := Aside0.mk (Kd.F_mono (ok' := fun k => k ≠ gb6) (F_far3 (g := gb10) (F_belowR (Kd.F_bound HQ.out) hb) (fun k hk => by have := hk.2; omega) (.int .u64 q0) (.int .u64 q1) (.slice AQ q2.length cq)) (fun k hk => hk.1)); clear hg hb hbox n2 n6 g10 BK2 BK6 HB HQ; have h10_0 := (blk_cell BK101.out 0).trans rfl; have h10_1 := (blk_cell BK101.out 1).trans rfl; have h10_2 := (blk_cell BK101.out 2).trans rfl; have h6_0 := (blk_cell BK61.out 0).trans rfl; have h6_1 := (blk_cell BK61.out 1).trans rfl; have h6_2 := (blk_cell BK61.out 2).trans rfl; have hf6_0 := blk_frozen BK61.out 0; have hf6_1 := blk_frozen BK61.out 1; have hf6_2 := blk_frozen BK61.out 2))
      have hi2 : wrap64 ((i : Int) + 1) = ((i + 1 : Nat) : Int) := by
        have := HMS.out; unfold wrap64; omega
      rw [hi2]
      go_roundg (mn.length - (i + 1))
      case measure => have := HI.out; omega
      case rel => exact ⟨i + 1, ⟨q0, q1, q2⟩, AQ, cq, rfl, rfl, ⟨by omega⟩, HQC, HG1, ⟨far3 BK21.out N26b.out (.int .u64 q0) (.int .u64 q1) (.slice AQ q2.length cq)⟩, ⟨set3 BK61.out (.int .u64 q0) (.int .u64 q1) (.slice AQ q2.length cq)⟩, ⟨F_far3 HQ1.out (fun k hk => hk) (.int .u64 q0) (.int .u64 q1) (.slice AQ q2.length cq)⟩, ⟨below3 HB1.out G6.out (.int .u64 q0) (.int .u64 q1) (.slice AQ q2.length cq)⟩⟩
def laws_growthLeaf.f (a0 : Int) (l1 : List Int) : Option (Int × Int × (List (List Int))) := some (a0, IntKind.u64.wrap (a0 + 1), (([l1] : List (List Int))))
set_option maxHeartbeats 8000000 in
set_option maxRecDepth 100000 in
theorem laws_growthLeaf.calls (a0 : Int) (P1_ : Nat → Prop) (A1 : Option Addr) (c1 : Nat) (l1 : List Int) (r1 : Int) (r2 : Int) (r3 : List (List Int)) (w : World) (hs1 : Kd.V (Kd.int .u8) 5 w w.heap.size (fun k_ => P1_ k_) (.slice A1 l1.length c1) l1) (h : laws_growthLeaf.f a0 l1 = some (r1, r2, r3)) :
    Calls Tryd.prog 52 #[.int .u64 a0, .slice A1 l1.length c1] w fun e w' => ∃ v2_ : Value, e = .returned (.agg #[.int .u64 r1, .int .u64 r2, v2_]) ∧ Kd.N (Kd.slice 5 (Kd.int .u8)) 42 w' w.heap.size (fun k_ => (P1_ k_ ∨ w.heap.size ≤ k_)) v2_ r3 ∧ Below w.heap.size w w' := by
  have hu40 := Tryd.underlying40
  have HO1 := Aside0.mk (show Kd.V (Kd.int .u8) 5 w w.heap.size (fun k_ => (P1_ k_ ∨ w.heap.size ≤ k_)) (.slice A1 l1.length c1) l1 from Kd.V_mono hs1 (fun k_ hk => .inl hk))
  have HB := Aside0.mk (Below.refl w.heap.size w)
  have H : (some (a0, IntKind.u64.wrap (a0 + 1), (([l1] : List (List Int))))) = some (r1, r2, r3) := h
  clear h
  obtain ⟨y233, hy233⟩ : ∃ y_ : List (List Int), y_ = (([l1] : List (List Int))) := ⟨_, rfl⟩
  replace H : (some (a0, IntKind.u64.wrap (a0 + 1), y233)) = some (r1, r2, r3) := by first | (rw [hy233]; with_reducible exact H) | (have H2_ := (Option.bind_some _ _).symm.trans H; rw [hy233]; with_reducible exact H2_) | (have H2_ := (Option.bind_some _ _).symm.trans H; with_reducible exact H2_) | with_reducible exact H | (rw [hy233]; exact H) | exact H
  have Ny233 := Aside0.mk hy233
  clear hy233
  simp only [Option.some.injEq, Prod.mk.injEq] at H
  obtain ⟨rfl, rfl, rfl⟩ := H
  go_enter Tryd.func52, Tryd.ntmps52
  go_wp2_with (first | ((with_reducible refine gate_dst (N := 4) rfl ?_); refine box_event ?hg (N := 4) ?hd (cs := #[.int .u64 0, .int .u64 0, .slice none 0 0]) (t := 40) ?hr ?_; (case hd => rfl); (case hg => rfl); (case hr => first | (go_simp; done) | (go_simp; rfl)); intro gb232 hg w3 hbox hb; have n0_ := Aside0.mk (Kd.V_below (Kd.V_elderB (by (with_reducible repeat (first | apply Kd.V_alloc | apply Kd.V_drewN | apply Kd.V_drew)); exact HO1.out) gb232 (Nat.le_of_eq hg.symm)) hb); have n1_ := Aside0.mk (below_step (by repeat (first | (with_reducible first | exact HB.out | apply below_alloc | apply pw_below_drewN | apply below_drew1) | exact HB.out)) hb); have n2_ := Aside0.mk (hbox); have n3_ := Aside0.mk ((by rw [hg]; exact (below_size (by repeat (first | (with_reducible first | exact HB.out | apply below_alloc | apply pw_below_drewN | apply below_drew1) | exact HB.out))) : w.heap.size ≤ gb232)); have n4_ := Aside0.mk ((by rw [hg]; exact (below_size (by repeat (first | (with_reducible first | exact HB.out | apply below_alloc | apply pw_below_drewN | apply below_drew1) | exact HB.out))) : w.heap.size ≤ gb232)); clear HO1; clear HB; have HO1 := n0_; have HB := n1_; have BK232 := n2_; have GW232 := n3_; have GE232 := n4_; clear n0_ n1_ n2_ n3_ n4_; clear hb hbox hg) | ((with_reducible refine gate_dst (N := 9) rfl ?_); refine Kd.N_lit (Kd.slice 5 (Kd.int .u8)) _ 42 ?hg (N' := 9) ?hd (xs := ([l1] : List (List Int))) (inner := [.slice A1 l1.length c1]) (ok := (fun k_ => (P1_ k_ ∨ w.heap.size ≤ k_) ∧ k_ ≠ gb232)) (okp := (fun k_ => (P1_ k_ ∨ w.heap.size ≤ k_) ∧ k_ ≠ gb232)) ?hr ?hp (fun _ hk => hk) ((show ∀ k_, w3.heap.size ≤ k_ → (fun k_ => (P1_ k_ ∨ w.heap.size ≤ k_) ∧ k_ ≠ gb232) k_ from fun k_ hk => ⟨(.inr (Nat.le_trans (below_size (by repeat (first | (with_reducible first | exact HB.out | apply below_alloc | apply pw_below_drewN | apply below_drew1 | refine below_set ?_ GE232.out) | exact HB.out))) hk)), Kd.freshB (g := gb232) (o := .cells #[.int .u64 0, .int .u64 0, .slice none 0 0] 40 (0, 0)) (by (with_reducible repeat (first | refine blk_drewN ?_ _ | refine blk_drew ?_ | refine blk_alloc ?_ _)); exact BK232.out) k_ hk⟩) _ (Nat.le_refl _)) (Below.refl _ _) (Nat.le_refl _) (by simp) ?_; (case hd => rfl); (case hg => rfl); (case hr => first | (go_simp; done) | (go_simp; rfl)); (case hp => exact (Reps.one (show Kd.FK (Kd.slice 5 (Kd.int .u8)) _ _ l1 [.slice A1 l1.length c1] from (Kd.FK_slice_mk (Kd.V_reads' (Kd.V_mono (ok' := (fun k_ => (P1_ k_ ∨ w.heap.size ≤ k_) ∧ k_ ≠ gb232)) (HO1.out) (fun k_ hk => ⟨hk.1, hk.2⟩))).2.1 (Kd.V_F (Kd.V_mono (ok' := (fun k_ => (P1_ k_ ∨ w.heap.size ≤ k_) ∧ k_ ≠ gb232)) (HO1.out) (fun k_ hk => ⟨hk.1, hk.2⟩))))) (Reps.none _ _))); intro v234 w4 ho5 hb hg_ hnew_; clear hg_ hnew_; (first | rw [← Ny233.out] at ho5 | (simp only [Int.reduceToNat] at ho5; rw [← Ny233.out] at ho5)); have n0_ := Aside0.mk (Kd.V_elder' (by (with_reducible repeat (first | apply Kd.V_alloc | apply Kd.V_drewN | apply Kd.V_drew)); exact HO1.out) (Kd.N_base ho5) hb); have n1_ := Aside0.mk (Kd.N_lower ho5 (below_size (by repeat (first | (with_reducible first | exact HB.out | apply below_alloc | apply pw_below_drewN | apply below_drew1 | refine below_set ?_ GE232.out) | exact HB.out)))); have n2_ := Aside0.mk (blk_below (g := gb232) (o := .cells #[.int .u64 0, .int .u64 0, .slice none 0 0] 40 (0, 0)) (by (with_reducible repeat (first | refine blk_drewN ?_ _ | refine blk_drew ?_ | refine blk_alloc ?_ _)); exact BK232.out) hb); have n3_ := Aside0.mk (below_step (by repeat (first | (with_reducible first | exact HB.out | apply below_alloc | apply pw_below_drewN | apply below_drew1 | refine below_set ?_ GE232.out) | exact HB.out)) hb); clear HO1; clear BK232; clear HB; have HO1 := n0_; have HO235 := n1_; have BK232 := n2_; have HB := n3_; clear n0_ n1_ n2_ n3_; clear hb ho5; obtain ⟨Ao6, co6, eo6⟩ := Kd.N_slice HO235.out; subst eo6; have hcz7_0 : w4.cell? ⟨gb232, 0, none⟩ = some (.int .u64 0) := (blk_cell BK232.out 0).trans rfl; have hcz7_1 : w4.cell? ⟨gb232, 1, none⟩ = some (.int .u64 0) := (blk_cell BK232.out 1).trans rfl; have hcz7_2 : w4.cell? ⟨gb232, 2, none⟩ = some (.slice none 0 0) := (blk_cell BK232.out 2).trans rfl; have hfz7_0 := blk_frozen BK232.out 0; have hfz7_1 := blk_frozen BK232.out 1; have hfz7_2 := blk_frozen BK232.out 2))
  refine bodyPost_ret (results_cell_row rfl _ _ gb232 40 #[.int .u64 a0, .int .u64 (IntKind.u64.wrap (a0 + 1)), .slice Ao6 y233.length co6] (0, 0) _ rfl (by (with_reducible repeat (first | refine blk_drewN ?_ _ | refine blk_drew ?_ | refine blk_alloc ?_ _)); refine blk_put (cs := #[.int .u64 a0, .int .u64 (IntKind.u64.wrap (a0 + 1)), .slice none 0 0]) ?_ 2 _ rfl; (with_reducible repeat (first | refine blk_drewN ?_ _ | refine blk_drew ?_ | refine blk_alloc ?_ _)); refine blk_put (cs := #[.int .u64 a0, .int .u64 0, .slice none 0 0]) ?_ 1 _ rfl; (with_reducible repeat (first | refine blk_drewN ?_ _ | refine blk_drew ?_ | refine blk_alloc ?_ _)); refine blk_put (cs := #[.int .u64 0, .int .u64 0, .slice none 0 0]) ?_ 0 _ rfl; (with_reducible repeat (first | refine blk_drewN ?_ _ | refine blk_drew ?_ | refine blk_alloc ?_ _)); exact BK232.out) Tryd.underlying40 rfl (by kernel_rfl)) rfl ?_
  exact ⟨_, by first | rfl | (simp [errW_none, errW_some] <;> rfl) | (simp [*, errW_none, errW_some] <;> rfl), by (with_reducible repeat (first | apply Kd.N_alloc | apply Kd.N_drewN | apply Kd.N_drew)); exact Kd.N_mono (Kd.N_far (p := ⟨gb232, 2, none⟩) (Kd.N_far (p := ⟨gb232, 1, none⟩) (Kd.N_far (p := ⟨gb232, 0, none⟩) (Kd.N_mono HO235.out (fun k_ hk => (⟨hk, hk.2⟩ : _ ∧ k_ ≠ gb232))) (fun _ hk => hk.2) (.int .u64 a0)) (fun _ hk => hk.2) (.int .u64 (IntKind.u64.wrap (a0 + 1)))) (fun _ hk => hk.2) (.slice Ao6 y233.length co6)) (fun _ hk => hk.1.1), by repeat (first | (with_reducible first | exact HB.out | apply below_alloc | apply pw_below_drewN | apply below_drew1 | refine below_set ?_ GE232.out) | exact HB.out)⟩
end Go.Proofs.YtijldedhcjkhiaaDoor.T
