-- laid by xprint.py (a program of this session over the kit's print); Lean checks it
import Derived.Test.YtijldedhcjkhiaaX0
import Derived.Test.YtijldedhcjkhiaaX7
import Derived.Test.YtijldedhcjkhiaaX10
namespace Go.Proofs.Ytijldedhcjkhiaa.X
open Go.RowKit Go.Proofs.YtijldedhcjkhiaaW.PrintWords Go.Proofs.YtijldedhcjkhiaaW.PrintLast Go.Proofs.YtijldedhcjkhiaaW.PrintMore
attribute [local go_sem] max2_int min2_int max_two min_two max_three min_three max_four min_four   -- for this text's walks alone
set_option linter.unusedVariables false
set_option linter.unusedSimpArgs false

/-! ### spec_rootIn: function 20 -/
def spec_rootIn.f : Nat → Int → Int → Int → Int → Int → Int → Int → Int → Int → List Int → List (List Int) → Option (List Int)
  | 0, _, _, _, _, _, _, _, _, _, _, _ => none
  | k + 1, a0_0, a0_1, a0_2, a0_3, a0_4, a0_5, a1, a2_0, a2_1, l3, l4 => if (IntKind.u64.wrap (a2_1 - a2_0)) = 1 then (some l3) else ((spec_split.f k (IntKind.u64.wrap (a2_1 - a2_0))).bind fun t370 => (if a1 < (IntKind.u64.wrap (a2_0 + t370)) then (if 0 ≤ (wrap64 ((l4.length : Int) - 1)) then (if (wrap64 ((l4.length : Int) - 1)) ≤ (l4.length : Int) then ((spec_rootIn.f k a0_0 a0_1 a0_2 a0_3 a0_4 a0_5 a1 a2_0 (IntKind.u64.wrap (a2_0 + t370)) l3 (l4.take ((wrap64 ((l4.length : Int) - 1)) : Int).toNat)).bind fun t375 => (if (wrap64 ((l4.length : Int) - 1)) < (l4.length : Int) then ((spec_HashChildren.f k a0_0 a0_1 a0_2 a0_3 a0_4 a0_5 t375 (rd_L1 l4 (wrap64 ((l4.length : Int) - 1)))).bind fun t379 => (some t379)) else (none))) else (none)) else (none)) else (if 0 ≤ (wrap64 ((l4.length : Int) - 1)) then (if (wrap64 ((l4.length : Int) - 1)) < (l4.length : Int) then (if (wrap64 ((l4.length : Int) - 1)) ≤ (l4.length : Int) then ((spec_rootIn.f k a0_0 a0_1 a0_2 a0_3 a0_4 a0_5 a1 (IntKind.u64.wrap (a2_0 + t370)) a2_1 l3 (l4.take ((wrap64 ((l4.length : Int) - 1)) : Int).toNat)).bind fun t387 => ((spec_HashChildren.f k a0_0 a0_1 a0_2 a0_3 a0_4 a0_5 (rd_L1 l4 (wrap64 ((l4.length : Int) - 1))) t387).bind fun t390 => (some t390))) else (none)) else (none)) else (none))))
theorem spec_rootIn.mono_l : ∀ k, (∀ y0 y1 y2 y3 y4 y5 y6 y7 y8 y9 y10, LeO (spec_rootIn.f k y0 y1 y2 y3 y4 y5 y6 y7 y8 y9 y10) (spec_rootIn.f (k + 1) y0 y1 y2 y3 y4 y5 y6 y7 y8 y9 y10))
  | 0 => fun _ _ _ _ _ _ _ _ _ _ _ r h => by simp [spec_rootIn.f] at h
  | k + 1 => by
    have ih0 := spec_rootIn.mono_l k
    · intro y0 y1 y2 y3 y4 y5 y6 y7 y8 y9 y10
      unfold spec_rootIn.f
      repeat' first
      | (with_reducible exact ih0 _ _ _ _ _ _ _ _ _ _ _)
      | (with_reducible exact spec_HashChildren.mono _ _ _ _ _ _ _ _ _)
      | (with_reducible exact spec_split.mono _ _)
      | (with_reducible exact LeO.refl _)
      | (with_reducible exact LeO.none _)
      | (with_reducible refine LeO.ite ?_ ?_)
      | (with_reducible refine LeO.bind ?_ (fun _ => ?_))
      | exact ih0 _ _ _ _ _ _ _ _ _ _ _
      | exact spec_HashChildren.mono _ _ _ _ _ _ _ _ _
      | exact spec_split.mono _ _
      | exact LeO.none _
      | refine LeO.ite ?_ ?_
      | refine LeO.bind ?_ (fun _ => ?_)
theorem spec_rootIn.mono : ∀ a0 a1 a2 a3 a4 a5 a6 a7 a8 a9 a10 k, LeO (spec_rootIn.f k a0 a1 a2 a3 a4 a5 a6 a7 a8 a9 a10) (spec_rootIn.f (k + 1) a0 a1 a2 a3 a4 a5 a6 a7 a8 a9 a10) := by
  intro a0 a1 a2 a3 a4 a5 a6 a7 a8 a9 a10 k
  have ih0 := spec_rootIn.mono_l k
  exact ih0 a0 a1 a2 a3 a4 a5 a6 a7 a8 a9 a10
def spec_rootIn.T3 : Bool × List (List Nat × List Nat) := (true, [([], []), ([0], [0]), ([], []), ([2], [2]), ([], []), ([4], [4]), ([3, 5], [3, 5]), ([6], [6]), ([1, 7], [1, 7]), ([], []), ([9], [9]), ([10], [10]), ([8, 7, 0, 1, 2, 3, 4, 5, 6, 7, 8], [8]), ([11, 12, 0, 1, 2, 3, 4, 5, 6, 7, 8, 9, 10, 11, 12], [11])])
def spec_rootIn.B3 : List Nat := [0, 1, 0, 4, 0, 16, 60, 124, 255, 0, 512, 1536, 511, 8191]
theorem spec_rootIn.tab3 : rtab .any (opsOf Try.f20 3) = spec_rootIn.T3 := by kernel_rfl
theorem spec_rootIn.bits3 : waitsOk spec_rootIn.T3.2 spec_rootIn.B3 = true := by kernel_rfl
def spec_rootIn.T5 : Bool × List (List Nat × List Nat) := (true, [([], []), ([], []), ([], []), ([], []), ([3], [3]), ([], []), ([4, 5], [4, 5]), ([], []), ([], []), ([], []), ([8, 9], [8, 9]), ([1, 2, 6, 7, 10], [1, 2, 6, 7, 10]), ([], []), ([], []), ([12, 13], [12, 13]), ([14], [14]), ([0, 11, 15, 11], [0, 11, 15]), ([16, 16, 0, 1, 2, 3, 4, 5, 6, 7, 8, 9, 10, 11, 12, 13, 14, 15, 16], [16])])
def spec_rootIn.B5 : List Nat := [0, 0, 0, 0, 8, 0, 56, 0, 0, 0, 768, 2046, 0, 0, 12288, 28672, 65535, 131071]
theorem spec_rootIn.tab5 : rtab .any (opsOf Try.f20 5) = spec_rootIn.T5 := by kernel_rfl
theorem spec_rootIn.bits5 : waitsOk spec_rootIn.T5.2 spec_rootIn.B5 = true := by kernel_rfl
def spec_rootIn.T6 : Bool × List (List Nat × List Nat) := (true, [([], []), ([], []), ([], []), ([1, 2], [1, 2]), ([3], [3]), ([], []), ([], []), ([], []), ([], []), ([8], [8]), ([7, 9], [7, 9]), ([], []), ([], []), ([], []), ([12, 13], [12, 13]), ([5, 6, 10, 11, 14], [5, 6, 10, 11, 14]), ([0, 4, 15, 15], [0, 4, 15]), ([16, 16, 0, 1, 2, 3, 4, 5, 6, 7, 8, 9, 10, 11, 12, 13, 14, 15, 16], [16])])
def spec_rootIn.B6 : List Nat := [0, 0, 0, 6, 14, 0, 0, 0, 0, 256, 896, 0, 0, 0, 12288, 32736, 65535, 131071]
theorem spec_rootIn.tab6 : rtab .any (opsOf Try.f20 6) = spec_rootIn.T6 := by kernel_rfl
theorem spec_rootIn.bits6 : waitsOk spec_rootIn.T6.2 spec_rootIn.B6 = true := by kernel_rfl
set_option maxHeartbeats 8000000 in
set_option maxRecDepth 100000 in
theorem spec_rootIn.calls (k : Nat) : ∀ (a0_0 : Int) (a0_1 : Int) (a0_2 : Int) (a0_3 : Int) (a0_4 : Int) (a0_5 : Int) (a1 : Int) (a2_0 : Int) (a2_1 : Int) (P3_ : Nat → Prop) (A3 : Option Addr) (c3 : Nat) (l3 : List Int) (A4 : Option Addr) (c4 : Nat) (l4 : List (List Int)) (r : List Int) (w : World) (hs3 : Kd.V (Kd.int .u8) 5 w w.heap.size (fun k_ => P3_ k_) (.slice A3 l3.length c3) l3) (hr4 : Kd.C (Kd.slice 5 (Kd.int .u8)) w A4 l4.length l4) (hc4 : l4.length ≤ c4) (h : spec_rootIn.f k a0_0 a0_1 a0_2 a0_3 a0_4 a0_5 a1 a2_0 a2_1 l3 l4 = some r),
    Calls Try.prog 20 #[.agg #[.int .i64 a0_0, .int .i64 a0_1, .int .i64 a0_2, .int .u64 a0_3, .int .u64 a0_4, .int .u64 a0_5], .int .u64 a1, .agg #[.int .u64 a2_0, .int .u64 a2_1], .slice A3 l3.length c3, .slice A4 l4.length c4] w fun e w' => ∃ v0_ : Value, e = .returned (v0_) ∧ Kd.V (Kd.int .u8) 5 w' w.heap.size (fun k_ => (P3_ k_ ∨ w.heap.size ≤ k_)) v0_ r ∧ Below w.heap.size w w' := by
  induction k using Nat.strongRecOn with
  | _ k ih =>
  intro a0_0 a0_1 a0_2 a0_3 a0_4 a0_5 a1 a2_0 a2_1 P3_ A3 c3 l3 A4 c4 l4 r w hs3 hr4 hc4 h
  cases k with
  | zero => exact absurd h (by simp [spec_rootIn.f])
  | succ k =>
  simp only [spec_rootIn.f] at h
  have hu24 := Try.underlying24
  have hu49 := Try.underlying49
  have HO3 := Aside0.mk (show Kd.V (Kd.int .u8) 5 w w.heap.size (fun k_ => (P3_ k_ ∨ w.heap.size ≤ k_)) (.slice A3 l3.length c3) l3 from Kd.V_mono hs3 (fun k_ hk => .inl hk))
  have HR4 := Aside0.mk hr4
  have HC4 := Aside0.mk hc4
  clear hr4 hc4
  have HB := Aside0.mk (Below.refl w.heap.size w)
  have H : (if (IntKind.u64.wrap (a2_1 - a2_0)) = 1 then (some l3) else ((spec_split.f k (IntKind.u64.wrap (a2_1 - a2_0))).bind fun t370 => (if a1 < (IntKind.u64.wrap (a2_0 + t370)) then (if 0 ≤ (wrap64 ((l4.length : Int) - 1)) then (if (wrap64 ((l4.length : Int) - 1)) ≤ (l4.length : Int) then ((spec_rootIn.f k a0_0 a0_1 a0_2 a0_3 a0_4 a0_5 a1 a2_0 (IntKind.u64.wrap (a2_0 + t370)) l3 (l4.take ((wrap64 ((l4.length : Int) - 1)) : Int).toNat)).bind fun t375 => (if (wrap64 ((l4.length : Int) - 1)) < (l4.length : Int) then ((spec_HashChildren.f k a0_0 a0_1 a0_2 a0_3 a0_4 a0_5 t375 (rd_L1 l4 (wrap64 ((l4.length : Int) - 1)))).bind fun t379 => (some t379)) else (none))) else (none)) else (none)) else (if 0 ≤ (wrap64 ((l4.length : Int) - 1)) then (if (wrap64 ((l4.length : Int) - 1)) < (l4.length : Int) then (if (wrap64 ((l4.length : Int) - 1)) ≤ (l4.length : Int) then ((spec_rootIn.f k a0_0 a0_1 a0_2 a0_3 a0_4 a0_5 a1 (IntKind.u64.wrap (a2_0 + t370)) a2_1 l3 (l4.take ((wrap64 ((l4.length : Int) - 1)) : Int).toNat)).bind fun t387 => ((spec_HashChildren.f k a0_0 a0_1 a0_2 a0_3 a0_4 a0_5 (rd_L1 l4 (wrap64 ((l4.length : Int) - 1))) t387).bind fun t390 => (some t390))) else (none)) else (none)) else (none))))) = some r := h
  clear h
  by_cases c6 : (IntKind.u64.wrap (a2_1 - a2_0)) = 1
  · rw [if_pos c6] at H
    have c6b0 : ((IntKind.u64.wrap (a2_1 - a2_0)) == 1) = true := beq_iff_eq.mpr c6
    have c6b1 : ((IntKind.u64.wrap (a2_1 - a2_0)) != 1) = false := bne_eq_false_iff_eq.mpr c6
    clear c6
    obtain rfl := Option.some.inj H
    go_enter Try.func20, Try.ntmps20
    go_wp2_with (first | ((with_reducible refine gate_dst (N := 5) rfl ?_); refine box_event ?hg (N := 5) ?hd (cs := #[.int .i64 a0_0, .int .i64 a0_1, .int .i64 a0_2, .int .u64 a0_3, .int .u64 a0_4, .int .u64 a0_5]) (t := 24) ?hr ?_; (case hd => rfl); (case hg => rfl); (case hr => first | (go_simp; done) | (go_simp; rfl)); intro gb368 hg w7 hbox hb; have n0_ := Aside0.mk (Kd.V_below (Kd.V_elderB (by (with_reducible repeat (first | apply Kd.V_alloc | apply Kd.V_drewN | apply Kd.V_drew)); exact HO3.out) gb368 (Nat.le_of_eq hg.symm)) hb); have n1_ := Aside0.mk (below_step (by repeat (first | (with_reducible first | exact HB.out | apply below_alloc | apply pw_below_drewN | apply below_drew1) | exact HB.out)) hb); have n2_ := Aside0.mk (hbox); have n3_ := Aside0.mk ((by rw [hg]; exact (below_size (by repeat (first | (with_reducible first | exact HB.out | apply below_alloc | apply pw_below_drewN | apply below_drew1) | exact HB.out))) : w.heap.size ≤ gb368)); have n4_ := Aside0.mk ((by rw [hg]; exact (below_size (by repeat (first | (with_reducible first | exact HB.out | apply below_alloc | apply pw_below_drewN | apply below_drew1) | exact HB.out))) : w.heap.size ≤ gb368)); clear HO3; clear HB; have HO3 := n0_; have HB := n1_; have BK368 := n2_; have GW368 := n3_; have GE368 := n4_; clear n0_ n1_ n2_ n3_ n4_; clear hb hbox hg) | ((with_reducible refine gate_dst (N := 7) rfl ?_); refine box_event ?hg (N := 7) ?hd (cs := #[.int .u64 a2_0, .int .u64 a2_1]) (t := 49) ?hr ?_; (case hd => rfl); (case hg => rfl); (case hr => first | (go_simp; done) | (go_simp; rfl)); intro gb369 hg w8 hbox hb; have n0_ := Aside0.mk (Kd.V_below (Kd.V_elderB (by (with_reducible repeat (first | apply Kd.V_alloc | apply Kd.V_drewN | apply Kd.V_drew)); exact HO3.out) gb369 (Nat.le_of_eq hg.symm)) hb); have n1_ := Aside0.mk (blk_below (g := gb368) (o := .cells #[.int .i64 a0_0, .int .i64 a0_1, .int .i64 a0_2, .int .u64 a0_3, .int .u64 a0_4, .int .u64 a0_5] 24 (0, 0)) (by (with_reducible repeat (first | refine blk_drewN ?_ _ | refine blk_drew ?_ | refine blk_alloc ?_ _)); exact BK368.out) hb); have n2_ := Aside0.mk (below_step (by repeat (first | (with_reducible first | exact HB.out | apply below_alloc | apply pw_below_drewN | apply below_drew1 | refine below_set ?_ GE368.out) | exact HB.out)) hb); have n3_ := Aside0.mk (hbox); have n4_ := Aside0.mk ((by rw [hg]; exact (below_size (by repeat (first | (with_reducible first | exact HB.out | apply below_alloc | apply pw_below_drewN | apply below_drew1 | refine below_set ?_ GE368.out) | exact HB.out))) : w.heap.size ≤ gb369)); have n5_ := Aside0.mk ((by rw [hg]; exact (below_size (by repeat (first | (with_reducible first | exact HB.out | apply below_alloc | apply pw_below_drewN | apply below_drew1 | refine below_set ?_ GE368.out) | exact HB.out))) : w.heap.size ≤ gb369)); have n6_ := Aside0.mk ((by rw [hg]; exact Nat.ne_of_lt (blk_lt (g := gb368) (o := .cells #[.int .i64 a0_0, .int .i64 a0_1, .int .i64 a0_2, .int .u64 a0_3, .int .u64 a0_4, .int .u64 a0_5] 24 (0, 0)) (by (with_reducible repeat (first | refine blk_drewN ?_ _ | refine blk_drew ?_ | refine blk_alloc ?_ _)); exact BK368.out)) : gb368 ≠ gb369)); have n7_ := Aside0.mk ((by rw [hg]; exact Nat.ne_of_gt (blk_lt (g := gb368) (o := .cells #[.int .i64 a0_0, .int .i64 a0_1, .int .i64 a0_2, .int .u64 a0_3, .int .u64 a0_4, .int .u64 a0_5] 24 (0, 0)) (by (with_reducible repeat (first | refine blk_drewN ?_ _ | refine blk_drew ?_ | refine blk_alloc ?_ _)); exact BK368.out)) : gb369 ≠ gb368)); clear HO3; clear BK368; clear HB; have HO3 := n0_; have BK368 := n1_; have HB := n2_; have BK369 := n3_; have GW369 := n4_; have GE369 := n5_; have NB368_369 := n6_; have NB369_368 := n7_; clear n0_ n1_ n2_ n3_ n4_ n5_ n6_ n7_; clear hb hbox hg; have hnb9 := NB369_368.out; have hnc9 := NB368_369.out; have hcz10_0 : w8.cell? ⟨gb369, 0, none⟩ = some (.int .u64 a2_0) := (blk_cell BK369.out 0).trans rfl; have hcz10_1 : w8.cell? ⟨gb369, 1, none⟩ = some (.int .u64 a2_1) := (blk_cell BK369.out 1).trans rfl; have hfz10_0 := blk_frozen BK369.out 0; have hfz10_1 := blk_frozen BK369.out 1))
    go_ret
    exact ⟨_, by first | rfl | (simp [errW_none, errW_some] <;> rfl) | (simp [*, errW_none, errW_some] <;> rfl), by (with_reducible repeat (first | apply Kd.V_alloc | apply Kd.V_drewN | apply Kd.V_drew)); exact Kd.V_mono HO3.out (fun _ hk => hk.1.1), by repeat (first | (with_reducible first | exact HB.out | apply below_alloc | apply pw_below_drewN | apply below_drew1 | refine below_set ?_ GE368.out | refine below_set ?_ GE369.out) | exact HB.out)⟩
  · rw [if_neg c6] at H
    have c6b0 : ((IntKind.u64.wrap (a2_1 - a2_0)) == 1) = false := beq_eq_false_iff_ne.mpr c6
    have c6b1 : ((IntKind.u64.wrap (a2_1 - a2_0)) != 1) = true := bne_iff_ne.mpr c6
    replace H := Option.bind_eq_some_iff.mp H
    obtain ⟨t370, A110, H⟩ := H
    replace H : (if a1 < (IntKind.u64.wrap (a2_0 + t370)) then (if 0 ≤ (wrap64 ((l4.length : Int) - 1)) then (if (wrap64 ((l4.length : Int) - 1)) ≤ (l4.length : Int) then ((spec_rootIn.f k a0_0 a0_1 a0_2 a0_3 a0_4 a0_5 a1 a2_0 (IntKind.u64.wrap (a2_0 + t370)) l3 (l4.take ((wrap64 ((l4.length : Int) - 1)) : Int).toNat)).bind fun t375 => (if (wrap64 ((l4.length : Int) - 1)) < (l4.length : Int) then ((spec_HashChildren.f k a0_0 a0_1 a0_2 a0_3 a0_4 a0_5 t375 (rd_L1 l4 (wrap64 ((l4.length : Int) - 1)))).bind fun t379 => (some t379)) else (none))) else (none)) else (none)) else (if 0 ≤ (wrap64 ((l4.length : Int) - 1)) then (if (wrap64 ((l4.length : Int) - 1)) < (l4.length : Int) then (if (wrap64 ((l4.length : Int) - 1)) ≤ (l4.length : Int) then ((spec_rootIn.f k a0_0 a0_1 a0_2 a0_3 a0_4 a0_5 a1 (IntKind.u64.wrap (a2_0 + t370)) a2_1 l3 (l4.take ((wrap64 ((l4.length : Int) - 1)) : Int).toNat)).bind fun t387 => ((spec_HashChildren.f k a0_0 a0_1 a0_2 a0_3 a0_4 a0_5 (rd_L1 l4 (wrap64 ((l4.length : Int) - 1))) t387).bind fun t390 => (some t390))) else (none)) else (none)) else (none))) = some r := H
    have A11 := Aside0.mk A110
    clear A110
    by_cases c12 : a1 < (IntKind.u64.wrap (a2_0 + t370))
    · rw [if_pos c12] at H
      have c12b0 : decide (a1 < (IntKind.u64.wrap (a2_0 + t370))) = true := decide_eq_true c12
      clear c12
      obtain ⟨ji13, hji13⟩ : ∃ j_ : Int, (wrap64 ((l4.length : Int) - 1)) = j_ := ⟨_, rfl⟩
      replace H : (if 0 ≤ (ji13) then (if (ji13) ≤ (l4.length : Int) then ((spec_rootIn.f k a0_0 a0_1 a0_2 a0_3 a0_4 a0_5 a1 a2_0 (IntKind.u64.wrap (a2_0 + t370)) l3 (l4.take ((ji13) : Int).toNat)).bind fun t375 => (if (ji13) < (l4.length : Int) then ((spec_HashChildren.f k a0_0 a0_1 a0_2 a0_3 a0_4 a0_5 t375 (rd_L1 l4 (ji13))).bind fun t379 => (some t379)) else (none))) else (none)) else (none)) = some r := by first | (rw [hji13] at H; exact H) | (simp only [hji13] at H ⊢; exact H)
      (try rw [hji13] at A11)
      have hji13w : (IntKind.i64.wrap ((l4.length : Int) - 1)) = ji13 := (i64_w _).trans hji13
      by_cases c14 : 0 ≤ (ji13)
      · rw [if_pos c14] at H
        have c14b0 := eq_true c14
        have c14b1 : decide (0 ≤ (ji13)) = true := decide_eq_true c14
        clear c14
        by_cases c15 : (ji13) ≤ (l4.length : Int)
        · rw [if_pos c15] at H
          have c15b0 := eq_true c15
          have c15b1 : decide ((ji13) ≤ (l4.length : Int)) = true := decide_eq_true c15
          clear c15
          obtain ⟨y371, hy371⟩ : ∃ y_ : List (List Int), y_ = (l4.take ((ji13) : Int).toNat) := ⟨_, rfl⟩
          replace H : ((spec_rootIn.f k a0_0 a0_1 a0_2 a0_3 a0_4 a0_5 a1 a2_0 (IntKind.u64.wrap (a2_0 + t370)) l3 y371).bind fun t375 => (if (ji13) < (l4.length : Int) then ((spec_HashChildren.f k a0_0 a0_1 a0_2 a0_3 a0_4 a0_5 t375 (rd_L1 l4 (ji13))).bind fun t379 => (some t379)) else (none))) = some r := by first | (rw [hy371]; with_reducible exact H) | (have H2_ := (Option.bind_some _ _).symm.trans H; rw [hy371]; with_reducible exact H2_) | (have H2_ := (Option.bind_some _ _).symm.trans H; with_reducible exact H2_) | with_reducible exact H | (rw [hy371]; exact H) | exact H
          have Ny371 := Aside0.mk hy371
          clear hy371
          replace H := Option.bind_eq_some_iff.mp H
          obtain ⟨t375, A160, H⟩ := H
          replace H : (if (ji13) < (l4.length : Int) then ((spec_HashChildren.f k a0_0 a0_1 a0_2 a0_3 a0_4 a0_5 t375 (rd_L1 l4 (ji13))).bind fun t379 => (some t379)) else (none)) = some r := H
          have A16 := Aside0.mk A160
          clear A160
          by_cases c17 : (ji13) < (l4.length : Int)
          · rw [if_pos c17] at H
            have c17b0 : decide ((ji13) < (l4.length : Int)) = true := decide_eq_true c17
            clear c17
            replace H := Option.bind_eq_some_iff.mp H
            obtain ⟨t379, A180, H⟩ := H
            replace H : (some t379) = some r := H
            have A18 := Aside0.mk A180
            clear A180
            obtain rfl := Option.some.inj H
            go_enter Try.func20, Try.ntmps20
            try go_wp2_with (first | ((with_reducible refine gate_dst (N := 5) rfl ?_); refine box_event ?hg (N := 5) ?hd (cs := #[.int .i64 a0_0, .int .i64 a0_1, .int .i64 a0_2, .int .u64 a0_3, .int .u64 a0_4, .int .u64 a0_5]) (t := 24) ?hr ?_; (case hd => rfl); (case hg => rfl); (case hr => first | (go_simp; done) | (go_simp; rfl)); intro gb368 hg w19 hbox hb; have n0_ := Aside0.mk (Kd.V_below (Kd.V_elderB (by (with_reducible repeat (first | apply Kd.V_alloc | apply Kd.V_drewN | apply Kd.V_drew)); exact HO3.out) gb368 (Nat.le_of_eq hg.symm)) hb); have n1_ := Aside0.mk (below_step (by repeat (first | (with_reducible first | exact HB.out | apply below_alloc | apply pw_below_drewN | apply below_drew1) | exact HB.out)) hb); have n2_ := Aside0.mk (hbox); have n3_ := Aside0.mk ((by rw [hg]; exact (below_size (by repeat (first | (with_reducible first | exact HB.out | apply below_alloc | apply pw_below_drewN | apply below_drew1) | exact HB.out))) : w.heap.size ≤ gb368)); have n4_ := Aside0.mk ((by rw [hg]; exact (below_size (by repeat (first | (with_reducible first | exact HB.out | apply below_alloc | apply pw_below_drewN | apply below_drew1) | exact HB.out))) : w.heap.size ≤ gb368)); clear HO3; clear HB; have HO3 := n0_; have HB := n1_; have BK368 := n2_; have GW368 := n3_; have GE368 := n4_; clear n0_ n1_ n2_ n3_ n4_; clear hb hbox hg) | ((with_reducible refine gate_dst (N := 7) rfl ?_); refine box_event ?hg (N := 7) ?hd (cs := #[.int .u64 a2_0, .int .u64 a2_1]) (t := 49) ?hr ?_; (case hd => rfl); (case hg => rfl); (case hr => first | (go_simp; done) | (go_simp; rfl)); intro gb369 hg w20 hbox hb; have n0_ := Aside0.mk (Kd.V_below (Kd.V_elderB (by (with_reducible repeat (first | apply Kd.V_alloc | apply Kd.V_drewN | apply Kd.V_drew)); exact HO3.out) gb369 (Nat.le_of_eq hg.symm)) hb); have n1_ := Aside0.mk (blk_below (g := gb368) (o := .cells #[.int .i64 a0_0, .int .i64 a0_1, .int .i64 a0_2, .int .u64 a0_3, .int .u64 a0_4, .int .u64 a0_5] 24 (0, 0)) (by (with_reducible repeat (first | refine blk_drewN ?_ _ | refine blk_drew ?_ | refine blk_alloc ?_ _)); exact BK368.out) hb); have n2_ := Aside0.mk (below_step (by repeat (first | (with_reducible first | exact HB.out | apply below_alloc | apply pw_below_drewN | apply below_drew1 | refine below_set ?_ GE368.out) | exact HB.out)) hb); have n3_ := Aside0.mk (hbox); have n4_ := Aside0.mk ((by rw [hg]; exact (below_size (by repeat (first | (with_reducible first | exact HB.out | apply below_alloc | apply pw_below_drewN | apply below_drew1 | refine below_set ?_ GE368.out) | exact HB.out))) : w.heap.size ≤ gb369)); have n5_ := Aside0.mk ((by rw [hg]; exact (below_size (by repeat (first | (with_reducible first | exact HB.out | apply below_alloc | apply pw_below_drewN | apply below_drew1 | refine below_set ?_ GE368.out) | exact HB.out))) : w.heap.size ≤ gb369)); have n6_ := Aside0.mk ((by rw [hg]; exact Nat.ne_of_lt (blk_lt (g := gb368) (o := .cells #[.int .i64 a0_0, .int .i64 a0_1, .int .i64 a0_2, .int .u64 a0_3, .int .u64 a0_4, .int .u64 a0_5] 24 (0, 0)) (by (with_reducible repeat (first | refine blk_drewN ?_ _ | refine blk_drew ?_ | refine blk_alloc ?_ _)); exact BK368.out)) : gb368 ≠ gb369)); have n7_ := Aside0.mk ((by rw [hg]; exact Nat.ne_of_gt (blk_lt (g := gb368) (o := .cells #[.int .i64 a0_0, .int .i64 a0_1, .int .i64 a0_2, .int .u64 a0_3, .int .u64 a0_4, .int .u64 a0_5] 24 (0, 0)) (by (with_reducible repeat (first | refine blk_drewN ?_ _ | refine blk_drew ?_ | refine blk_alloc ?_ _)); exact BK368.out)) : gb369 ≠ gb368)); clear HO3; clear BK368; clear HB; have HO3 := n0_; have BK368 := n1_; have HB := n2_; have BK369 := n3_; have GW369 := n4_; have GE369 := n5_; have NB368_369 := n6_; have NB369_368 := n7_; clear n0_ n1_ n2_ n3_ n4_ n5_ n6_ n7_; clear hb hbox hg; have hnb21 := NB369_368.out; have hnc21 := NB368_369.out; have hcz22_0 : w20.cell? ⟨gb369, 0, none⟩ = some (.int .u64 a2_0) := (blk_cell BK369.out 0).trans rfl; have hcz22_1 : w20.cell? ⟨gb369, 1, none⟩ = some (.int .u64 a2_1) := (blk_cell BK369.out 1).trans rfl; have hfz22_0 := blk_frozen BK369.out 0; have hfz22_1 := blk_frozen BK369.out 1))
            have n0_ := Aside0.mk (Kd.V_drew HO3.out)
            have n1_ := Aside0.mk (blk_drew BK368.out)
            have n2_ := Aside0.mk (blk_drew BK369.out)
            have n3_ := Aside0.mk (below_drew1 HB.out)
            clear HO3
            clear BK368
            clear BK369
            clear HB
            have HO3 := n0_
            have BK368 := n1_
            have BK369 := n2_
            have HB := n3_
            clear n0_ n1_ n2_ n3_
            refine start_ (n := 14) (S := fun w' => w'.cell? ⟨gb369, 0, none⟩ = some (.int .u64 a2_0) ∧ w'.cell? ⟨gb369, 1, none⟩ = some (.int .u64 a2_1)) (ds := []) #[false, false, false, false, false, false, false, false, false, false, false, false, false, false] (by kernel_rfl) rfl rfl ⟨(blk_cell BK369.out 0).trans rfl, (blk_cell BK369.out 1).trans rfl⟩ (fun hHeld => ?_); refine with_tabW spec_rootIn.tab3 spec_rootIn.bits3 (fun HT_ HW_ => ?_)
            generalize w20.drew = w23 at HO3 BK368 BK369 HB hHeld ⊢
            refine pure_ (i := 0) (N := some 20) (v := ?_) (a' := ?_) #[true, false, false, false, false, false, false, false, false, false, false, false, false, false] rfl rfl (any_of HT_.out (by kernel_rfl)) (fun _ _ _ h => h) (Or.inl ⟨by rfl, ?_⟩) ?_ ?_
            rotate_left
            · intro w'
              go_simp
              with_reducible rfl
            rotate_left
            · simp only [Act.put, List.setIfInBounds_toArray, List.set_cons_zero, List.set_cons_succ, i64_w, i32_w]
              rfl
            refine pure_ (i := 2) (N := some 22) (v := ?_) (a' := ?_) #[true, false, true, false, false, false, false, false, false, false, false, false, false, false] rfl rfl (any_of HT_.out (by kernel_rfl)) (fun _ _ _ h => h) (Or.inl ⟨by rfl, ?_⟩) ?_ ?_
            rotate_left
            · intro w'
              go_simp
              with_reducible rfl
            rotate_left
            · simp only [Act.put, List.setIfInBounds_toArray, List.set_cons_zero, List.set_cons_succ, i64_w, i32_w]
              rfl
            refine pure_ (i := 4) (N := some 24) (v := ?_) (a' := ?_) #[true, false, true, false, true, false, false, false, false, false, false, false, false, false] rfl rfl (any_of HT_.out (by kernel_rfl)) (fun _ _ _ h => h) (Or.inl ⟨by rfl, ?_⟩) ?_ ?_
            rotate_left
            · intro w'
              go_simp
              with_reducible rfl
            rotate_left
            · simp only [Act.put, List.setIfInBounds_toArray, List.set_cons_zero, List.set_cons_succ, i64_w, i32_w]
              rfl
            refine pure_ (i := 9) (N := some 29) (v := ?_) (a' := ?_) #[true, false, true, false, true, false, false, false, false, true, false, false, false, false] rfl rfl (any_of HT_.out (by kernel_rfl)) (fun _ _ _ h => h) (Or.inl ⟨by rfl, ?_⟩) ?_ ?_
            rotate_left
            · intro w'
              go_simp
              with_reducible rfl
            rotate_left
            · simp only [Act.put, List.setIfInBounds_toArray, List.set_cons_zero, List.set_cons_succ, i64_w, i32_w]
              rfl
            refine pure_ (i := 10) (N := some 30) (v := ?_) (a' := ?_) #[true, false, true, false, true, false, false, false, false, true, true, false, false, false] rfl rfl (any_of HT_.out (by kernel_rfl)) (fun _ _ _ h => h) (Or.inl ⟨by rfl, ?_⟩) ?_ ?_
            rotate_left
            · intro w'
              go_simp
              with_reducible rfl
            rotate_left
            · simp only [Act.put, List.setIfInBounds_toArray, List.set_cons_zero, List.set_cons_succ, i64_w, i32_w]
              rfl
            refine pure_ (i := 11) (N := some 31) (v := ?_) (a' := ?_) #[true, false, true, false, true, false, false, false, false, true, true, true, false, false] rfl rfl (any_of HT_.out (by kernel_rfl)) (fun _ _ _ h => h) (Or.inl ⟨by rfl, ?_⟩) ?_ ?_
            rotate_left
            · intro w'
              go_simp
              with_reducible rfl
            rotate_left
            · simp only [Act.put, List.setIfInBounds_toArray, List.set_cons_zero, List.set_cons_succ, i64_w, i32_w]
              rfl
            refine take_ (i := 1) (N := some 21) (v := ?_) (a' := ?_) #[true, true, true, false, true, false, false, false, false, true, true, true, false, false] rfl rfl (take_ofW HT_.out HW_.out (by kernel_rfl)) (fun _ _ _ h => h) (Or.inl ⟨by rfl, ?_⟩) hHeld ?_ ?_
            rotate_left
            · rintro w' ⟨s0, s1⟩
              go_simp
              with_reducible rfl
            rotate_left
            · simp only [Act.put, List.setIfInBounds_toArray, List.set_cons_zero, List.set_cons_succ, i64_w, i32_w]
              rfl
            refine take_ (i := 3) (N := some 23) (v := ?_) (a' := ?_) #[true, true, true, true, true, false, false, false, false, true, true, true, false, false] rfl rfl (take_ofW HT_.out HW_.out (by kernel_rfl)) (fun _ _ _ h => h) (Or.inl ⟨by rfl, ?_⟩) hHeld ?_ ?_
            rotate_left
            · rintro w' ⟨s0, s1⟩
              go_simp
              with_reducible rfl
            rotate_left
            · simp only [Act.put, List.setIfInBounds_toArray, List.set_cons_zero, List.set_cons_succ, i64_w, i32_w]
              rfl
            refine take_ (i := 5) (N := some 25) (v := ?_) (a' := ?_) #[true, true, true, true, true, true, false, false, false, true, true, true, false, false] rfl rfl (take_ofW HT_.out HW_.out (by kernel_rfl)) (fun _ _ _ h => h) (Or.inl ⟨by rfl, ?_⟩) hHeld ?_ ?_
            rotate_left
            · rintro w' ⟨s0, s1⟩
              go_simp
              with_reducible rfl
            rotate_left
            · simp only [Act.put, List.setIfInBounds_toArray, List.set_cons_zero, List.set_cons_succ, i64_w, i32_w]
              rfl
            refine pure_ (i := 6) (N := some 26) (v := ?_) (a' := ?_) #[true, true, true, true, true, true, true, false, false, true, true, true, false, false] rfl rfl (any_of HT_.out (by kernel_rfl)) (fun _ _ _ h => h) (Or.inl ⟨by rfl, ?_⟩) ?_ ?_
            rotate_left
            · intro w'
              go_simp
              with_reducible rfl
            rotate_left
            · simp only [Act.put, List.setIfInBounds_toArray, List.set_cons_zero, List.set_cons_succ, i64_w, i32_w]
              rfl
            refine one_ (i := 7) (N := some 27) #[true, true, true, true, true, true, true, true, false, true, true, true, false, false] rfl rfl (one_of HT_.out (by kernel_rfl)) (by decide) (fun K hK => ?_)
            refine goes_ Try.func26 (by kernel_rfl) rfl #[.int .u64 (IntKind.u64.wrap (a2_1 - a2_0))] (by rfl) rfl rfl (by (try simp only [List.map_toArray, List.map_cons, List.map_nil]); first | done | rfl | (simp only [List.length_drop, List.length_take]; rfl)) ?_
            with_reducible refine (spec_split.calls k (IntKind.u64.wrap (a2_1 - a2_0)) t370 _ A11.out).mono ?_
            rintro e w' ⟨rfl, ⟨nd, rfl⟩⟩
            refine ⟨_, rfl, ?_⟩
            refine hK.out _ _ ⟨(blk_cell BK369.out 0).trans rfl, (blk_cell BK369.out 1).trans rfl⟩ (fun hHeld => ?_)
            clear hK K
            refine norm_ (a' := ?_) ?_ ?_
            rotate_left
            · show Act.put _ (some 27) _ = _
              simp only [Act.put, List.setIfInBounds_toArray, List.set_cons_zero, List.set_cons_succ, i64_w, i32_w]
              rfl
            refine pure_ (i := 8) (N := some 28) (v := ?_) (a' := ?_) #[true, true, true, true, true, true, true, true, true, true, true, true, false, false] rfl rfl (any_of HT_.out (by kernel_rfl)) (fun _ _ _ h => h) (Or.inl ⟨by rfl, ?_⟩) ?_ ?_
            rotate_left
            · intro w'
              go_simp
              with_reducible rfl
            rotate_left
            · simp only [Act.put, List.setIfInBounds_toArray, List.set_cons_zero, List.set_cons_succ, i64_w, i32_w]
              rfl
            refine pure_ (i := 12) (N := some 11) (v := ?_) (a' := ?_) #[true, true, true, true, true, true, true, true, true, true, true, true, true, false] rfl rfl (any_of HT_.out (by kernel_rfl)) (fun _ _ _ h => h) (Or.inl ⟨by rfl, ?_⟩) ?_ ?_
            rotate_left
            · intro w'
              go_simp
              with_reducible rfl
            rotate_left
            · simp only [Act.put, List.setIfInBounds_toArray, List.set_cons_zero, List.set_cons_succ, i64_w, i32_w]
              rfl
            refine pure_ (i := 13) (N := some 12) (v := ?_) (a' := ?_) #[true, true, true, true, true, true, true, true, true, true, true, true, true, true] rfl rfl (any_of HT_.out (by kernel_rfl)) (fun _ _ _ h => h) (Or.inl ⟨by rfl, ?_⟩) ?_ ?_
            rotate_left
            · intro w'
              go_simp
              with_reducible rfl
            rotate_left
            · simp only [Act.put, List.setIfInBounds_toArray, List.set_cons_zero, List.set_cons_succ, i64_w, i32_w]
              rfl
            refine done_ (done_of HT_.out (by kernel_rfl)) ?_
            try go_wp2
            (try (rw [drewN_self w23]; generalize hq_ : World.drewN w23 _ = w23; have n0_ : Aside0 (Kd.V (Kd.int .u8) 5 w23 w.heap.size (fun k_ => (P3_ k_ ∨ w.heap.size ≤ k_) ∧ k_ ≠ gb368 ∧ k_ ≠ gb369) (.slice A3 l3.length c3) l3) := ⟨by rw [← hq_]; exact (by (with_reducible repeat (first | apply Kd.V_alloc | apply Kd.V_drewN | apply Kd.V_drew)); exact Kd.V_mono HO3.out (fun _ hk => ⟨hk.1.1, ⟨hk.1.2, hk.2⟩⟩))⟩; have n1_ : Aside0 (w23.heap[gb368]? = some (.cells #[.int .i64 a0_0, .int .i64 a0_1, .int .i64 a0_2, .int .u64 a0_3, .int .u64 a0_4, .int .u64 a0_5] 24 (0, 0))) := ⟨by rw [← hq_]; exact (by (with_reducible repeat (first | refine blk_drewN ?_ _ | refine blk_drew ?_ | refine blk_alloc ?_ _)); exact BK368.out)⟩; have n2_ : Aside0 (w23.heap[gb369]? = some (.cells #[.int .u64 a2_0, .int .u64 a2_1] 49 (0, 0))) := ⟨by rw [← hq_]; exact (by (with_reducible repeat (first | refine blk_drewN ?_ _ | refine blk_drew ?_ | refine blk_alloc ?_ _)); exact BK369.out)⟩; have n3_ : Aside0 (Below w.heap.size w w23) := ⟨by rw [← hq_]; exact (by repeat (first | (with_reducible first | exact HB.out | apply below_alloc | apply pw_below_drewN | apply below_drew1 | refine below_set ?_ GE368.out | refine below_set ?_ GE369.out) | exact HB.out))⟩; clear HO3 BK368 BK369 HB hq_; have HO3 := n0_; have BK368 := n1_; have BK369 := n2_; have HB := n3_; clear n0_ n1_ n2_ n3_))
            have n0_ := Aside0.mk (Kd.V_drew HO3.out)
            have n1_ := Aside0.mk (blk_drew BK368.out)
            have n2_ := Aside0.mk (blk_drew BK369.out)
            have n3_ := Aside0.mk (below_drew1 HB.out)
            clear HO3
            clear BK368
            clear BK369
            clear HB
            have HO3 := n0_
            have BK368 := n1_
            have BK369 := n2_
            have HB := n3_
            clear n0_ n1_ n2_ n3_
            have q25 : ((ji13) : Int) ≤ ((l4.length : Int) : Int) := of_decide_eq_true (by first | (with_reducible assumption) | assumption)
            obtain ⟨i025, hi025, _, hsz25, _⟩ := info_parts info25
            have hroom25 : l4.length ≤ c4 := HC4.out
            have hC25 : Kd.C (Kd.slice 5 (Kd.int .u8)) _ A4 l4.length l4 := HR4.out
            have hcut25 := cut_to (P := Try.prog) 26 25 .i64 Try.underlying26 hi025 A4 l4.length c4 (ji13) (of_decide_eq_true (by first | (with_reducible assumption) | assumption)) q25 hroom25
            have hr25 := Kd.C_take (m := ((ji13) : Int).toNat) hC25 (by omega)
            have hy25 : y371.length = ((ji13) : Int).toNat := (by rw [Ny371.out, List.length_take]; omega)
            rw [← Ny371.out] at hr25
            rw [← hy25] at hcut25
            have HR374 := Aside0.mk hr25
            have HC374 := Aside0.mk (show y371.length ≤ c4 from by omega)
            clear hr25 hC25 hroom25 hi025 hsz25
            have KY25 := Aside0.mk hy25
            clear hy25
            replace q25 := eq_true q25
            have p378 : 0 ≤ ((ji13) : Int) := of_decide_eq_true (by first | (with_reducible assumption) | assumption)
            have q378 : (ji13) < (l4.length : Int) := of_decide_eq_true (by first | (with_reducible assumption) | assumption)
            obtain ⟨ad378, A378_0, c378_0, e378, hx378_0, hl378_0, hi378_0⟩ := at_L1 HR4.out (ji13) p378 q378
            have hw378_0 := hx378_0
            cases e378
            replace hx378_0 := (HB.out.cell (World.block_lt_of_cell? w _ hx378_0)).trans hx378_0
            have HR378_0 := Aside0.mk hi378_0
            have HC378_0 := Aside0.mk hl378_0
            clear hi378_0 hl378_0
            replace p378 := eq_true p378
            replace q378 := eq_true q378
            refine start_ (n := 18) (S := fun w' => w'.cell? ⟨gb368, 0, none⟩ = some (.int .i64 a0_0) ∧ w'.cell? ⟨gb368, 1, none⟩ = some (.int .i64 a0_1) ∧ w'.cell? ⟨gb368, 2, none⟩ = some (.int .i64 a0_2) ∧ w'.cell? ⟨gb368, 3, none⟩ = some (.int .u64 a0_3) ∧ w'.cell? ⟨gb368, 4, none⟩ = some (.int .u64 a0_4) ∧ w'.cell? ⟨gb368, 5, none⟩ = some (.int .u64 a0_5) ∧ w'.cell? ⟨gb369, 0, none⟩ = some (.int .u64 a2_0) ∧ w'.cell? ⟨gb369, 1, none⟩ = some (.int .u64 a2_1) ∧ w'.cell? (ad378.add ((ji13)).toNat) = some (.slice A378_0 (rd_L1 l4 (ji13)).length c378_0)) (ds := []) #[false, false, false, false, false, false, false, false, false, false, false, false, false, false, false, false, false, false] (by kernel_rfl) rfl rfl ⟨(blk_cell BK368.out 0).trans rfl, (blk_cell BK368.out 1).trans rfl, (blk_cell BK368.out 2).trans rfl, (blk_cell BK368.out 3).trans rfl, (blk_cell BK368.out 4).trans rfl, (blk_cell BK368.out 5).trans rfl, (blk_cell BK369.out 0).trans rfl, (blk_cell BK369.out 1).trans rfl, ((HB.out.cell (World.block_lt_of_cell? w _ hw378_0)).trans hw378_0)⟩ (fun hHeld => ?_); refine with_tabW spec_rootIn.tab5 spec_rootIn.bits5 (fun HT_ HW_ => ?_)
            generalize w23.drew = w24 at HO3 BK368 BK369 HB HR374 HR378_0 hx378_0 hHeld ⊢
            refine pure_ (i := 2) (N := some 37) (v := ?_) (a' := ?_) #[false, false, true, false, false, false, false, false, false, false, false, false, false, false, false, false, false, false] rfl rfl (any_of HT_.out (by kernel_rfl)) (fun _ _ _ h => h) (Or.inl ⟨by rfl, ?_⟩) ?_ ?_
            rotate_left
            · intro w'
              go_simp
              with_reducible rfl
            rotate_left
            · simp only [Act.put, List.setIfInBounds_toArray, List.set_cons_zero, List.set_cons_succ, i64_w, i32_w]
              rfl
            refine pure_ (i := 3) (N := some 38) (v := ?_) (a' := ?_) #[false, false, true, true, false, false, false, false, false, false, false, false, false, false, false, false, false, false] rfl rfl (any_of HT_.out (by kernel_rfl)) (fun _ _ _ h => h) (Or.inl ⟨by rfl, ?_⟩) ?_ ?_
            rotate_left
            · intro w'
              go_simp
              with_reducible rfl
            rotate_left
            · simp only [Act.put, List.setIfInBounds_toArray, List.set_cons_zero, List.set_cons_succ, i64_w, i32_w]
              rfl
            refine pure_ (i := 5) (N := some 40) (v := ?_) (a' := ?_) #[false, false, true, true, false, true, false, false, false, false, false, false, false, false, false, false, false, false] rfl rfl (any_of HT_.out (by kernel_rfl)) (fun _ _ _ h => h) (Or.inl ⟨by rfl, ?_⟩) ?_ ?_
            rotate_left
            · intro w'
              go_simp
              with_reducible rfl
            rotate_left
            · simp only [Act.put, List.setIfInBounds_toArray, List.set_cons_zero, List.set_cons_succ, i64_w, i32_w]
              rfl
            refine pure_ (i := 7) (N := some 42) (v := ?_) (a' := ?_) #[false, false, true, true, false, true, false, true, false, false, false, false, false, false, false, false, false, false] rfl rfl (any_of HT_.out (by kernel_rfl)) (fun _ _ _ h => h) (Or.inl ⟨by rfl, ?_⟩) ?_ ?_
            rotate_left
            · intro w'
              go_simp
              with_reducible rfl
            rotate_left
            · simp only [Act.put, List.setIfInBounds_toArray, List.set_cons_zero, List.set_cons_succ, i64_w, i32_w]
              rfl
            refine pure_ (i := 8) (N := some 43) (v := ?_) (a' := ?_) #[false, false, true, true, false, true, false, true, true, false, false, false, false, false, false, false, false, false] rfl rfl (any_of HT_.out (by kernel_rfl)) (fun _ _ _ h => h) (Or.inl ⟨by rfl, ?_⟩) ?_ ?_
            rotate_left
            · intro w'
              go_simp
              with_reducible rfl
            rotate_left
            · simp only [Act.put, List.setIfInBounds_toArray, List.set_cons_zero, List.set_cons_succ, i64_w, i32_w]
              rfl
            refine pure_ (i := 9) (N := some 44) (v := ?_) (a' := ?_) #[false, false, true, true, false, true, false, true, true, true, false, false, false, false, false, false, false, false] rfl rfl (any_of HT_.out (by kernel_rfl)) (fun _ _ _ h => h) (Or.inl ⟨by rfl, ?_⟩) ?_ ?_
            rotate_left
            · intro w'
              go_simp
              with_reducible rfl
            rotate_left
            · simp only [Act.put, List.setIfInBounds_toArray, List.set_cons_zero, List.set_cons_succ, i64_w, i32_w]
              rfl
            refine pure_ (i := 10) (N := some 45) (v := ?_) (a' := ?_) #[false, false, true, true, false, true, false, true, true, true, true, false, false, false, false, false, false, false] rfl rfl (any_of HT_.out (by kernel_rfl)) (fun _ _ _ h => h) (Or.inl ⟨by rfl, ?_⟩) ?_ ?_
            rotate_left
            · intro w'
              go_simp
              with_reducible rfl
            rotate_left
            · simp only [Act.put, List.setIfInBounds_toArray, List.set_cons_zero, List.set_cons_succ, i64_w, i32_w]
              rfl
            refine pure_ (i := 12) (N := some 47) (v := ?_) (a' := ?_) #[false, false, true, true, false, true, false, true, true, true, true, false, true, false, false, false, false, false] rfl rfl (any_of HT_.out (by kernel_rfl)) (fun _ _ _ h => h) (Or.inl ⟨by rfl, ?_⟩) ?_ ?_
            rotate_left
            · intro w'
              go_simp
              with_reducible rfl
            rotate_left
            · simp only [Act.put, List.setIfInBounds_toArray, List.set_cons_zero, List.set_cons_succ, i64_w, i32_w]
              rfl
            refine pure_ (i := 13) (N := some 48) (v := ?_) (a' := ?_) #[false, false, true, true, false, true, false, true, true, true, true, false, true, true, false, false, false, false] rfl rfl (any_of HT_.out (by kernel_rfl)) (fun _ _ _ h => h) (Or.inl ⟨by rfl, ?_⟩) ?_ ?_
            rotate_left
            · intro w'
              go_simp
              with_reducible rfl
            rotate_left
            · simp only [Act.put, List.setIfInBounds_toArray, List.set_cons_zero, List.set_cons_succ, i64_w, i32_w]
              rfl
            refine pure_ (i := 14) (N := some 49) (v := ?_) (a' := ?_) #[false, false, true, true, false, true, false, true, true, true, true, false, true, true, true, false, false, false] rfl rfl (any_of HT_.out (by kernel_rfl)) (fun _ _ _ h => h) (Or.inl ⟨by rfl, ?_⟩) ?_ ?_
            rotate_left
            · intro w'
              go_simp
              with_reducible rfl
            rotate_left
            · simp only [Act.put, List.setIfInBounds_toArray, List.set_cons_zero, List.set_cons_succ, i64_w, i32_w]
              rfl
            refine take_ (i := 0) (N := some 35) (v := ?_) (a' := ?_) #[true, false, true, true, false, true, false, true, true, true, true, false, true, true, true, false, false, false] rfl rfl (take_ofW HT_.out HW_.out (by kernel_rfl)) (fun _ _ _ h => h) (Or.inl ⟨by rfl, ?_⟩) hHeld ?_ ?_
            rotate_left
            · rintro w' ⟨s0, s1, s2, s3, s4, s5, s6, s7, s8⟩
              go_simp
              with_reducible rfl
            rotate_left
            · simp only [Act.put, List.setIfInBounds_toArray, List.set_cons_zero, List.set_cons_succ, i64_w, i32_w]
              rfl
            refine take_ (i := 1) (N := some 36) (v := ?_) (a' := ?_) #[true, true, true, true, false, true, false, true, true, true, true, false, true, true, true, false, false, false] rfl rfl (take_ofW HT_.out HW_.out (by kernel_rfl)) (fun _ _ _ h => h) (Or.inl ⟨by rfl, ?_⟩) hHeld ?_ ?_
            rotate_left
            · rintro w' ⟨s0, s1, s2, s3, s4, s5, s6, s7, s8⟩
              go_simp
              with_reducible rfl
            rotate_left
            · simp only [Act.put, List.setIfInBounds_toArray, List.set_cons_zero, List.set_cons_succ, i64_w, i32_w]
              rfl
            refine take_ (i := 4) (N := some 39) (v := ?_) (a' := ?_) #[true, true, true, true, true, true, false, true, true, true, true, false, true, true, true, false, false, false] rfl rfl (take_ofW HT_.out HW_.out (by kernel_rfl)) (fun _ _ _ h => h) (Or.inl ⟨by rfl, ?_⟩) hHeld ?_ ?_
            rotate_left
            · rintro w' ⟨s0, s1, s2, s3, s4, s5, s6, s7, s8⟩
              go_simp
              with_reducible rfl
            rotate_left
            · simp only [Act.put, List.setIfInBounds_toArray, List.set_cons_zero, List.set_cons_succ, i64_w, i32_w]
              rfl
            refine pure_ (i := 6) (N := some 41) (v := ?_) (a' := ?_) #[true, true, true, true, true, true, true, true, true, true, true, false, true, true, true, false, false, false] rfl rfl (any_of HT_.out (by kernel_rfl)) (fun _ _ _ h => h) (Or.inl ⟨by rfl, ?_⟩) ?_ ?_
            rotate_left
            · intro w'
              go_simp
              with_reducible rfl
            rotate_left
            · simp only [Act.put, List.setIfInBounds_toArray, List.set_cons_zero, List.set_cons_succ, i64_w, i32_w]
              rfl
            refine take_ (i := 15) (N := some 50) (v := ?_) (a' := ?_) #[true, true, true, true, true, true, true, true, true, true, true, false, true, true, true, true, false, false] rfl rfl (take_ofW HT_.out HW_.out (by kernel_rfl)) (fun _ _ _ h => h) (Or.inl ⟨by rfl, ?_⟩) hHeld ?_ ?_
            rotate_left
            · rintro w' ⟨s0, s1, s2, s3, s4, s5, s6, s7, s8⟩
              go_simp
              with_reducible rfl
            rotate_left
            · simp only [Act.put, List.setIfInBounds_toArray, List.set_cons_zero, List.set_cons_succ, i64_w, i32_w]
              rfl
            refine one_ (i := 11) (N := some 46) #[true, true, true, true, true, true, true, true, true, true, true, true, true, true, true, true, false, false] rfl rfl (one_of HT_.out (by kernel_rfl)) (by decide) (fun K hK => ?_)
            refine goes_ Try.func20 (by kernel_rfl) rfl #[.agg #[.int .i64 a0_0, .int .i64 a0_1, .int .i64 a0_2, .int .u64 a0_3, .int .u64 a0_4, .int .u64 a0_5], .int .u64 a1, .agg #[.int .u64 a2_0, .int .u64 (IntKind.u64.wrap (a2_0 + t370))], .slice A3 l3.length c3, .slice (some ad378) y371.length c4] (by rfl) rfl rfl (by (try simp only [List.map_toArray, List.map_cons, List.map_nil]); first | done | rfl | (simp only [List.length_drop, List.length_take]; rfl)) ?_
            with_reducible refine (ih k (by omega) a0_0 a0_1 a0_2 a0_3 a0_4 a0_5 a1 a2_0 (IntKind.u64.wrap (a2_0 + t370)) (fun k_ => (((P3_ k_ ∨ w.heap.size ≤ k_) ∧ k_ ≠ gb368) ∧ k_ ≠ gb369)) _ _ l3 _ _ y371 t375 _ ?side1 ?side2 ?side3 A16.out).mono ?_
            (case side1 => first | exact HO3.out | exact Kd.V_mono HO3.out (fun k_ hk_ => ⟨⟨hk_.1, hk_.2.1⟩, hk_.2.2⟩))
            (case side2 => repeat (first | exact (Kd.C_below HR374.out HB.out) | (with_reducible refine Kd.C_alloc ?_ _) | (with_reducible refine Kd.C_drewN ?_ _) | (with_reducible refine Kd.C_drew ?_)))
            (case side3 => exact HC374.out)
            rintro e w26 ⟨v376, rfl, ho0, hb⟩
            refine ⟨_, rfl, ?_⟩
            have n0_ := Aside0.mk (Kd.V_below (by (with_reducible repeat (first | apply Kd.V_alloc | apply Kd.V_drewN | apply Kd.V_drew)); exact HO3.out) hb)
            have n1_ := Aside0.mk (Kd.V_lower (Kd.V_mono (ok' := fun k_ => (P3_ k_ ∨ w.heap.size ≤ k_) ∧ k_ ≠ gb368 ∧ k_ ≠ gb369) ho0 (fun k_ hk_ => ⟨Or.elim hk_ (fun hs_ => hs_.1.1) (fun hn_ => (.inr (Nat.le_trans (below_size (by repeat (first | (with_reducible first | exact HB.out | apply below_alloc | apply pw_below_drewN | apply below_drew1 | refine below_set ?_ GE368.out | refine below_set ?_ GE369.out) | exact HB.out))) hn_))), Or.elim hk_ (fun hs_ => hs_.1.2) (fun hn_ => (Kd.freshB (g := gb368) (o := .cells #[.int .i64 a0_0, .int .i64 a0_1, .int .i64 a0_2, .int .u64 a0_3, .int .u64 a0_4, .int .u64 a0_5] 24 (0, 0)) (by (with_reducible repeat (first | refine blk_drewN ?_ _ | refine blk_drew ?_ | refine blk_alloc ?_ _)); exact BK368.out) k_ hn_)), Or.elim hk_ (fun hs_ => hs_.2) (fun hn_ => (Kd.freshB (g := gb369) (o := .cells #[.int .u64 a2_0, .int .u64 a2_1] 49 (0, 0)) (by (with_reducible repeat (first | refine blk_drewN ?_ _ | refine blk_drew ?_ | refine blk_alloc ?_ _)); exact BK369.out) k_ hn_))⟩)) (below_size (by repeat (first | (with_reducible first | exact HB.out | apply below_alloc | apply pw_below_drewN | apply below_drew1 | refine below_set ?_ GE368.out | refine below_set ?_ GE369.out) | exact HB.out))))
            have n2_ := Aside0.mk (blk_below (g := gb368) (o := .cells #[.int .i64 a0_0, .int .i64 a0_1, .int .i64 a0_2, .int .u64 a0_3, .int .u64 a0_4, .int .u64 a0_5] 24 (0, 0)) (by (with_reducible repeat (first | refine blk_drewN ?_ _ | refine blk_drew ?_ | refine blk_alloc ?_ _)); exact BK368.out) hb)
            have n3_ := Aside0.mk (blk_below (g := gb369) (o := .cells #[.int .u64 a2_0, .int .u64 a2_1] 49 (0, 0)) (by (with_reducible repeat (first | refine blk_drewN ?_ _ | refine blk_drew ?_ | refine blk_alloc ?_ _)); exact BK369.out) hb)
            have n4_ := Aside0.mk (below_step (by repeat (first | (with_reducible first | exact HB.out | apply below_alloc | apply pw_below_drewN | apply below_drew1 | refine below_set ?_ GE368.out | refine below_set ?_ GE369.out) | exact HB.out)) hb)
            clear HO3
            clear BK368
            clear BK369
            clear HB
            have HO3 := n0_
            have HO377 := n1_
            have BK368 := n2_
            have BK369 := n3_
            have HB := n4_
            clear n0_ n1_ n2_ n3_ n4_
            (try clear hb)
            (try clear hb2)
            (try clear hk)
            (try clear hi)
            (try clear ho0)
            obtain ⟨Ao27, co27, eo27⟩ := Kd.V_slice HO377.out
            (first | subst eo27 | (injection eo27 with f1_ f2_ f3_; have f4_ := f1_.symm; have f5_ := f3_.symm; clear f1_ f2_ f3_; subst f4_; subst f5_))
            refine hK.out _ _ ⟨(blk_cell BK368.out 0).trans rfl, (blk_cell BK368.out 1).trans rfl, (blk_cell BK368.out 2).trans rfl, (blk_cell BK368.out 3).trans rfl, (blk_cell BK368.out 4).trans rfl, (blk_cell BK368.out 5).trans rfl, (blk_cell BK369.out 0).trans rfl, (blk_cell BK369.out 1).trans rfl, ((HB.out.cell (World.block_lt_of_cell? w _ hw378_0)).trans hw378_0)⟩ (fun hHeld => ?_)
            clear hK K
            refine norm_ (a' := ?_) ?_ ?_
            rotate_left
            · show Act.put _ (some 46) _ = _
              simp only [Act.put, List.setIfInBounds_toArray, List.set_cons_zero, List.set_cons_succ, i64_w, i32_w]
              rfl
            refine one_ (i := 16) (N := some 51) #[true, true, true, true, true, true, true, true, true, true, true, true, true, true, true, true, true, false] rfl rfl (one_of HT_.out (by kernel_rfl)) (by decide) (fun K hK => ?_)
            refine goes_ Try.func27 (by kernel_rfl) rfl #[.agg #[.int .i64 a0_0, .int .i64 a0_1, .int .i64 a0_2, .int .u64 a0_3, .int .u64 a0_4, .int .u64 a0_5], .slice Ao27 t375.length co27, .slice A378_0 (rd_L1 l4 (ji13)).length c378_0] (by rfl) rfl rfl (by (try simp only [List.map_toArray, List.map_cons, List.map_nil]); first | done | (simp only [hji13]; rfl) | rfl | (simp only [List.length_drop, List.length_take]; rfl)) ?_
            with_reducible refine (spec_HashChildren.calls k a0_0 a0_1 a0_2 a0_3 a0_4 a0_5 _ _ t375 _ _ (rd_L1 l4 (ji13)) t379 _ ?side1 ?side2 ?side3 ?side4 A18.out).mono ?_
            (case side1 => repeat (first | exact (Kd.V_reads' HO377.out).2.2 | (with_reducible refine Kd.C_alloc ?_ _) | (with_reducible refine Kd.C_drewN ?_ _) | (with_reducible refine Kd.C_drew ?_)))
            (case side2 => exact (Kd.V_reads' HO377.out).2.1)
            (case side3 => repeat (first | exact (Kd.C_below HR378_0.out HB.out) | (with_reducible refine Kd.C_alloc ?_ _) | (with_reducible refine Kd.C_drewN ?_ _) | (with_reducible refine Kd.C_drew ?_)))
            (case side4 => exact HC378_0.out)
            rintro e w28 ⟨v380, rfl, ho0, hb⟩
            refine ⟨_, rfl, ?_⟩
            have n0_ := Aside0.mk (Kd.V_elder' (by (with_reducible repeat (first | apply Kd.V_alloc | apply Kd.V_drewN | apply Kd.V_drew)); exact HO3.out) (Kd.R_base ho0) hb)
            have n1_ := Aside0.mk (Kd.V_elder' (by (with_reducible repeat (first | apply Kd.V_alloc | apply Kd.V_drewN | apply Kd.V_drew)); exact HO377.out) (Kd.R_base ho0) hb)
            have n2_ := Aside0.mk (Kd.R_lower (Kd.R_newM (M := fun k_ => (w.heap.size ≤ k_)) ho0 (below_size (by repeat (first | (with_reducible first | exact HB.out | apply below_alloc | apply pw_below_drewN | apply below_drew1 | refine below_set ?_ GE368.out | refine below_set ?_ GE369.out) | exact HB.out))) (fun k_ h_ => h_)) (below_size (by repeat (first | (with_reducible first | exact HB.out | apply below_alloc | apply pw_below_drewN | apply below_drew1 | refine below_set ?_ GE368.out | refine below_set ?_ GE369.out) | exact HB.out))))
            have n3_ := Aside0.mk (blk_below (g := gb368) (o := .cells #[.int .i64 a0_0, .int .i64 a0_1, .int .i64 a0_2, .int .u64 a0_3, .int .u64 a0_4, .int .u64 a0_5] 24 (0, 0)) (by (with_reducible repeat (first | refine blk_drewN ?_ _ | refine blk_drew ?_ | refine blk_alloc ?_ _)); exact BK368.out) hb)
            have n4_ := Aside0.mk (blk_below (g := gb369) (o := .cells #[.int .u64 a2_0, .int .u64 a2_1] 49 (0, 0)) (by (with_reducible repeat (first | refine blk_drewN ?_ _ | refine blk_drew ?_ | refine blk_alloc ?_ _)); exact BK369.out) hb)
            have n5_ := Aside0.mk (below_step (by repeat (first | (with_reducible first | exact HB.out | apply below_alloc | apply pw_below_drewN | apply below_drew1 | refine below_set ?_ GE368.out | refine below_set ?_ GE369.out) | exact HB.out)) hb)
            clear HO3
            clear HO377
            clear BK368
            clear BK369
            clear HB
            have HO3 := n0_
            have HO377 := n1_
            have HO381 := n2_
            have BK368 := n3_
            have BK369 := n4_
            have HB := n5_
            clear n0_ n1_ n2_ n3_ n4_ n5_
            (try clear hb)
            (try clear hb2)
            (try clear hk)
            (try clear hi)
            (try clear ho0)
            refine hK.out _ _ ⟨(blk_cell BK368.out 0).trans rfl, (blk_cell BK368.out 1).trans rfl, (blk_cell BK368.out 2).trans rfl, (blk_cell BK368.out 3).trans rfl, (blk_cell BK368.out 4).trans rfl, (blk_cell BK368.out 5).trans rfl, (blk_cell BK369.out 0).trans rfl, (blk_cell BK369.out 1).trans rfl, ((HB.out.cell (World.block_lt_of_cell? w _ hw378_0)).trans hw378_0)⟩ (fun hHeld => ?_)
            clear hK K
            refine norm_ (a' := ?_) ?_ ?_
            rotate_left
            · show Act.put _ (some 51) _ = _
              simp only [Act.put, List.setIfInBounds_toArray, List.set_cons_zero, List.set_cons_succ, i64_w, i32_w]
              rfl
            refine pure_ (i := 17) (N := some 10) (v := ?_) (a' := ?_) #[true, true, true, true, true, true, true, true, true, true, true, true, true, true, true, true, true, true] rfl rfl (any_of HT_.out (by kernel_rfl)) (fun _ _ _ h => h) (Or.inl ⟨by rfl, ?_⟩) ?_ ?_
            rotate_left
            · intro w'
              go_simp
              with_reducible rfl
            rotate_left
            · simp only [Act.put, List.setIfInBounds_toArray, List.set_cons_zero, List.set_cons_succ, i64_w, i32_w]
              rfl
            refine done_ (done_of HT_.out (by kernel_rfl)) ?_
            try go_wp2
            go_ret
            exact ⟨_, by first | rfl | (simp [errW_none, errW_some] <;> rfl) | (simp only [← hji13]; first | rfl | (simp [errW_none, errW_some] <;> rfl)) | (simp [*, errW_none, errW_some] <;> rfl), Kd.V_mono (Kd.R_V (by (with_reducible repeat (first | apply Kd.R_alloc | apply Kd.R_drewN | apply Kd.R_drew)); exact Kd.R_mono HO381.out (fun _ hk => hk.1))) (fun k_ hk => by first | exact ⟨(.inr (hk.1)), hk.2⟩ | exact (.inr (hk))), by repeat (first | (with_reducible first | exact HB.out | apply below_alloc | apply pw_below_drewN | apply below_drew1 | refine below_set ?_ GE368.out | refine below_set ?_ GE369.out) | exact HB.out)⟩
          · rw [if_neg c17] at H
            exact absurd H (by simp)
        · rw [if_neg c15] at H
          exact absurd H (by simp)
      · rw [if_neg c14] at H
        exact absurd H (by simp)
    · rw [if_neg c12] at H
      have c12b0 : decide (a1 < (IntKind.u64.wrap (a2_0 + t370))) = false := decide_eq_false c12
      clear c12
      obtain ⟨ji29, hji29⟩ : ∃ j_ : Int, (wrap64 ((l4.length : Int) - 1)) = j_ := ⟨_, rfl⟩
      replace H : (if 0 ≤ (ji29) then (if (ji29) < (l4.length : Int) then (if (ji29) ≤ (l4.length : Int) then ((spec_rootIn.f k a0_0 a0_1 a0_2 a0_3 a0_4 a0_5 a1 (IntKind.u64.wrap (a2_0 + t370)) a2_1 l3 (l4.take ((ji29) : Int).toNat)).bind fun t387 => ((spec_HashChildren.f k a0_0 a0_1 a0_2 a0_3 a0_4 a0_5 (rd_L1 l4 (ji29)) t387).bind fun t390 => (some t390))) else (none)) else (none)) else (none)) = some r := by first | (rw [hji29] at H; exact H) | (simp only [hji29] at H ⊢; exact H)
      (try rw [hji29] at A11)
      have hji29w : (IntKind.i64.wrap ((l4.length : Int) - 1)) = ji29 := (i64_w _).trans hji29
      by_cases c30 : 0 ≤ (ji29)
      · rw [if_pos c30] at H
        have c30b0 : decide (0 ≤ (ji29)) = true := decide_eq_true c30
        clear c30
        by_cases c31 : (ji29) < (l4.length : Int)
        · rw [if_pos c31] at H
          have c31b0 : decide ((ji29) < (l4.length : Int)) = true := decide_eq_true c31
          clear c31
          have c32b0 := eq_true (of_decide_eq_true (by first | (with_reducible assumption) | assumption) : 0 ≤ (ji29))
          by_cases c33 : (ji29) ≤ (l4.length : Int)
          · rw [if_pos c33] at H
            have c33b0 := eq_true c33
            have c33b1 : decide ((ji29) ≤ (l4.length : Int)) = true := decide_eq_true c33
            clear c33
            obtain ⟨y383, hy383⟩ : ∃ y_ : List (List Int), y_ = (l4.take ((ji29) : Int).toNat) := ⟨_, rfl⟩
            replace H : ((spec_rootIn.f k a0_0 a0_1 a0_2 a0_3 a0_4 a0_5 a1 (IntKind.u64.wrap (a2_0 + t370)) a2_1 l3 y383).bind fun t387 => ((spec_HashChildren.f k a0_0 a0_1 a0_2 a0_3 a0_4 a0_5 (rd_L1 l4 (ji29)) t387).bind fun t390 => (some t390))) = some r := by first | (rw [hy383]; with_reducible exact H) | (have H2_ := (Option.bind_some _ _).symm.trans H; rw [hy383]; with_reducible exact H2_) | (have H2_ := (Option.bind_some _ _).symm.trans H; with_reducible exact H2_) | with_reducible exact H | (rw [hy383]; exact H) | exact H
            have Ny383 := Aside0.mk hy383
            clear hy383
            replace H := Option.bind_eq_some_iff.mp H
            obtain ⟨t387, A340, H⟩ := H
            replace H : ((spec_HashChildren.f k a0_0 a0_1 a0_2 a0_3 a0_4 a0_5 (rd_L1 l4 (ji29)) t387).bind fun t390 => (some t390)) = some r := H
            have A34 := Aside0.mk A340
            clear A340
            replace H := Option.bind_eq_some_iff.mp H
            obtain ⟨t390, A350, H⟩ := H
            replace H : (some t390) = some r := H
            have A35 := Aside0.mk A350
            clear A350
            obtain rfl := Option.some.inj H
            go_enter Try.func20, Try.ntmps20
            try go_wp2_with (first | ((with_reducible refine gate_dst (N := 5) rfl ?_); refine box_event ?hg (N := 5) ?hd (cs := #[.int .i64 a0_0, .int .i64 a0_1, .int .i64 a0_2, .int .u64 a0_3, .int .u64 a0_4, .int .u64 a0_5]) (t := 24) ?hr ?_; (case hd => rfl); (case hg => rfl); (case hr => first | (go_simp; done) | (go_simp; rfl)); intro gb368 hg w36 hbox hb; have n0_ := Aside0.mk (Kd.V_below (Kd.V_elderB (by (with_reducible repeat (first | apply Kd.V_alloc | apply Kd.V_drewN | apply Kd.V_drew)); exact HO3.out) gb368 (Nat.le_of_eq hg.symm)) hb); have n1_ := Aside0.mk (below_step (by repeat (first | (with_reducible first | exact HB.out | apply below_alloc | apply pw_below_drewN | apply below_drew1) | exact HB.out)) hb); have n2_ := Aside0.mk (hbox); have n3_ := Aside0.mk ((by rw [hg]; exact (below_size (by repeat (first | (with_reducible first | exact HB.out | apply below_alloc | apply pw_below_drewN | apply below_drew1) | exact HB.out))) : w.heap.size ≤ gb368)); have n4_ := Aside0.mk ((by rw [hg]; exact (below_size (by repeat (first | (with_reducible first | exact HB.out | apply below_alloc | apply pw_below_drewN | apply below_drew1) | exact HB.out))) : w.heap.size ≤ gb368)); clear HO3; clear HB; have HO3 := n0_; have HB := n1_; have BK368 := n2_; have GW368 := n3_; have GE368 := n4_; clear n0_ n1_ n2_ n3_ n4_; clear hb hbox hg) | ((with_reducible refine gate_dst (N := 7) rfl ?_); refine box_event ?hg (N := 7) ?hd (cs := #[.int .u64 a2_0, .int .u64 a2_1]) (t := 49) ?hr ?_; (case hd => rfl); (case hg => rfl); (case hr => first | (go_simp; done) | (go_simp; rfl)); intro gb369 hg w37 hbox hb; have n0_ := Aside0.mk (Kd.V_below (Kd.V_elderB (by (with_reducible repeat (first | apply Kd.V_alloc | apply Kd.V_drewN | apply Kd.V_drew)); exact HO3.out) gb369 (Nat.le_of_eq hg.symm)) hb); have n1_ := Aside0.mk (blk_below (g := gb368) (o := .cells #[.int .i64 a0_0, .int .i64 a0_1, .int .i64 a0_2, .int .u64 a0_3, .int .u64 a0_4, .int .u64 a0_5] 24 (0, 0)) (by (with_reducible repeat (first | refine blk_drewN ?_ _ | refine blk_drew ?_ | refine blk_alloc ?_ _)); exact BK368.out) hb); have n2_ := Aside0.mk (below_step (by repeat (first | (with_reducible first | exact HB.out | apply below_alloc | apply pw_below_drewN | apply below_drew1 | refine below_set ?_ GE368.out) | exact HB.out)) hb); have n3_ := Aside0.mk (hbox); have n4_ := Aside0.mk ((by rw [hg]; exact (below_size (by repeat (first | (with_reducible first | exact HB.out | apply below_alloc | apply pw_below_drewN | apply below_drew1 | refine below_set ?_ GE368.out) | exact HB.out))) : w.heap.size ≤ gb369)); have n5_ := Aside0.mk ((by rw [hg]; exact (below_size (by repeat (first | (with_reducible first | exact HB.out | apply below_alloc | apply pw_below_drewN | apply below_drew1 | refine below_set ?_ GE368.out) | exact HB.out))) : w.heap.size ≤ gb369)); have n6_ := Aside0.mk ((by rw [hg]; exact Nat.ne_of_lt (blk_lt (g := gb368) (o := .cells #[.int .i64 a0_0, .int .i64 a0_1, .int .i64 a0_2, .int .u64 a0_3, .int .u64 a0_4, .int .u64 a0_5] 24 (0, 0)) (by (with_reducible repeat (first | refine blk_drewN ?_ _ | refine blk_drew ?_ | refine blk_alloc ?_ _)); exact BK368.out)) : gb368 ≠ gb369)); have n7_ := Aside0.mk ((by rw [hg]; exact Nat.ne_of_gt (blk_lt (g := gb368) (o := .cells #[.int .i64 a0_0, .int .i64 a0_1, .int .i64 a0_2, .int .u64 a0_3, .int .u64 a0_4, .int .u64 a0_5] 24 (0, 0)) (by (with_reducible repeat (first | refine blk_drewN ?_ _ | refine blk_drew ?_ | refine blk_alloc ?_ _)); exact BK368.out)) : gb369 ≠ gb368)); clear HO3; clear BK368; clear HB; have HO3 := n0_; have BK368 := n1_; have HB := n2_; have BK369 := n3_; have GW369 := n4_; have GE369 := n5_; have NB368_369 := n6_; have NB369_368 := n7_; clear n0_ n1_ n2_ n3_ n4_ n5_ n6_ n7_; clear hb hbox hg; have hnb38 := NB369_368.out; have hnc38 := NB368_369.out; have hcz39_0 : w37.cell? ⟨gb369, 0, none⟩ = some (.int .u64 a2_0) := (blk_cell BK369.out 0).trans rfl; have hcz39_1 : w37.cell? ⟨gb369, 1, none⟩ = some (.int .u64 a2_1) := (blk_cell BK369.out 1).trans rfl; have hfz39_0 := blk_frozen BK369.out 0; have hfz39_1 := blk_frozen BK369.out 1))
            have n0_ := Aside0.mk (Kd.V_drew HO3.out)
            have n1_ := Aside0.mk (blk_drew BK368.out)
            have n2_ := Aside0.mk (blk_drew BK369.out)
            have n3_ := Aside0.mk (below_drew1 HB.out)
            clear HO3
            clear BK368
            clear BK369
            clear HB
            have HO3 := n0_
            have BK368 := n1_
            have BK369 := n2_
            have HB := n3_
            clear n0_ n1_ n2_ n3_
            refine start_ (n := 14) (S := fun w' => w'.cell? ⟨gb369, 0, none⟩ = some (.int .u64 a2_0) ∧ w'.cell? ⟨gb369, 1, none⟩ = some (.int .u64 a2_1)) (ds := []) #[false, false, false, false, false, false, false, false, false, false, false, false, false, false] (by kernel_rfl) rfl rfl ⟨(blk_cell BK369.out 0).trans rfl, (blk_cell BK369.out 1).trans rfl⟩ (fun hHeld => ?_); refine with_tabW spec_rootIn.tab3 spec_rootIn.bits3 (fun HT_ HW_ => ?_)
            generalize w37.drew = w40 at HO3 BK368 BK369 HB hHeld ⊢
            refine pure_ (i := 0) (N := some 20) (v := ?_) (a' := ?_) #[true, false, false, false, false, false, false, false, false, false, false, false, false, false] rfl rfl (any_of HT_.out (by kernel_rfl)) (fun _ _ _ h => h) (Or.inl ⟨by rfl, ?_⟩) ?_ ?_
            rotate_left
            · intro w'
              go_simp
              with_reducible rfl
            rotate_left
            · simp only [Act.put, List.setIfInBounds_toArray, List.set_cons_zero, List.set_cons_succ, i64_w, i32_w]
              rfl
            refine pure_ (i := 2) (N := some 22) (v := ?_) (a' := ?_) #[true, false, true, false, false, false, false, false, false, false, false, false, false, false] rfl rfl (any_of HT_.out (by kernel_rfl)) (fun _ _ _ h => h) (Or.inl ⟨by rfl, ?_⟩) ?_ ?_
            rotate_left
            · intro w'
              go_simp
              with_reducible rfl
            rotate_left
            · simp only [Act.put, List.setIfInBounds_toArray, List.set_cons_zero, List.set_cons_succ, i64_w, i32_w]
              rfl
            refine pure_ (i := 4) (N := some 24) (v := ?_) (a' := ?_) #[true, false, true, false, true, false, false, false, false, false, false, false, false, false] rfl rfl (any_of HT_.out (by kernel_rfl)) (fun _ _ _ h => h) (Or.inl ⟨by rfl, ?_⟩) ?_ ?_
            rotate_left
            · intro w'
              go_simp
              with_reducible rfl
            rotate_left
            · simp only [Act.put, List.setIfInBounds_toArray, List.set_cons_zero, List.set_cons_succ, i64_w, i32_w]
              rfl
            refine pure_ (i := 9) (N := some 29) (v := ?_) (a' := ?_) #[true, false, true, false, true, false, false, false, false, true, false, false, false, false] rfl rfl (any_of HT_.out (by kernel_rfl)) (fun _ _ _ h => h) (Or.inl ⟨by rfl, ?_⟩) ?_ ?_
            rotate_left
            · intro w'
              go_simp
              with_reducible rfl
            rotate_left
            · simp only [Act.put, List.setIfInBounds_toArray, List.set_cons_zero, List.set_cons_succ, i64_w, i32_w]
              rfl
            refine pure_ (i := 10) (N := some 30) (v := ?_) (a' := ?_) #[true, false, true, false, true, false, false, false, false, true, true, false, false, false] rfl rfl (any_of HT_.out (by kernel_rfl)) (fun _ _ _ h => h) (Or.inl ⟨by rfl, ?_⟩) ?_ ?_
            rotate_left
            · intro w'
              go_simp
              with_reducible rfl
            rotate_left
            · simp only [Act.put, List.setIfInBounds_toArray, List.set_cons_zero, List.set_cons_succ, i64_w, i32_w]
              rfl
            refine pure_ (i := 11) (N := some 31) (v := ?_) (a' := ?_) #[true, false, true, false, true, false, false, false, false, true, true, true, false, false] rfl rfl (any_of HT_.out (by kernel_rfl)) (fun _ _ _ h => h) (Or.inl ⟨by rfl, ?_⟩) ?_ ?_
            rotate_left
            · intro w'
              go_simp
              with_reducible rfl
            rotate_left
            · simp only [Act.put, List.setIfInBounds_toArray, List.set_cons_zero, List.set_cons_succ, i64_w, i32_w]
              rfl
            refine take_ (i := 1) (N := some 21) (v := ?_) (a' := ?_) #[true, true, true, false, true, false, false, false, false, true, true, true, false, false] rfl rfl (take_ofW HT_.out HW_.out (by kernel_rfl)) (fun _ _ _ h => h) (Or.inl ⟨by rfl, ?_⟩) hHeld ?_ ?_
            rotate_left
            · rintro w' ⟨s0, s1⟩
              go_simp
              with_reducible rfl
            rotate_left
            · simp only [Act.put, List.setIfInBounds_toArray, List.set_cons_zero, List.set_cons_succ, i64_w, i32_w]
              rfl
            refine take_ (i := 3) (N := some 23) (v := ?_) (a' := ?_) #[true, true, true, true, true, false, false, false, false, true, true, true, false, false] rfl rfl (take_ofW HT_.out HW_.out (by kernel_rfl)) (fun _ _ _ h => h) (Or.inl ⟨by rfl, ?_⟩) hHeld ?_ ?_
            rotate_left
            · rintro w' ⟨s0, s1⟩
              go_simp
              with_reducible rfl
            rotate_left
            · simp only [Act.put, List.setIfInBounds_toArray, List.set_cons_zero, List.set_cons_succ, i64_w, i32_w]
              rfl
            refine take_ (i := 5) (N := some 25) (v := ?_) (a' := ?_) #[true, true, true, true, true, true, false, false, false, true, true, true, false, false] rfl rfl (take_ofW HT_.out HW_.out (by kernel_rfl)) (fun _ _ _ h => h) (Or.inl ⟨by rfl, ?_⟩) hHeld ?_ ?_
            rotate_left
            · rintro w' ⟨s0, s1⟩
              go_simp
              with_reducible rfl
            rotate_left
            · simp only [Act.put, List.setIfInBounds_toArray, List.set_cons_zero, List.set_cons_succ, i64_w, i32_w]
              rfl
            refine pure_ (i := 6) (N := some 26) (v := ?_) (a' := ?_) #[true, true, true, true, true, true, true, false, false, true, true, true, false, false] rfl rfl (any_of HT_.out (by kernel_rfl)) (fun _ _ _ h => h) (Or.inl ⟨by rfl, ?_⟩) ?_ ?_
            rotate_left
            · intro w'
              go_simp
              with_reducible rfl
            rotate_left
            · simp only [Act.put, List.setIfInBounds_toArray, List.set_cons_zero, List.set_cons_succ, i64_w, i32_w]
              rfl
            refine one_ (i := 7) (N := some 27) #[true, true, true, true, true, true, true, true, false, true, true, true, false, false] rfl rfl (one_of HT_.out (by kernel_rfl)) (by decide) (fun K hK => ?_)
            refine goes_ Try.func26 (by kernel_rfl) rfl #[.int .u64 (IntKind.u64.wrap (a2_1 - a2_0))] (by rfl) rfl rfl (by (try simp only [List.map_toArray, List.map_cons, List.map_nil]); first | done | rfl | (simp only [List.length_drop, List.length_take]; rfl)) ?_
            with_reducible refine (spec_split.calls k (IntKind.u64.wrap (a2_1 - a2_0)) t370 _ A11.out).mono ?_
            rintro e w' ⟨rfl, ⟨nd, rfl⟩⟩
            refine ⟨_, rfl, ?_⟩
            refine hK.out _ _ ⟨(blk_cell BK369.out 0).trans rfl, (blk_cell BK369.out 1).trans rfl⟩ (fun hHeld => ?_)
            clear hK K
            refine norm_ (a' := ?_) ?_ ?_
            rotate_left
            · show Act.put _ (some 27) _ = _
              simp only [Act.put, List.setIfInBounds_toArray, List.set_cons_zero, List.set_cons_succ, i64_w, i32_w]
              rfl
            refine pure_ (i := 8) (N := some 28) (v := ?_) (a' := ?_) #[true, true, true, true, true, true, true, true, true, true, true, true, false, false] rfl rfl (any_of HT_.out (by kernel_rfl)) (fun _ _ _ h => h) (Or.inl ⟨by rfl, ?_⟩) ?_ ?_
            rotate_left
            · intro w'
              go_simp
              with_reducible rfl
            rotate_left
            · simp only [Act.put, List.setIfInBounds_toArray, List.set_cons_zero, List.set_cons_succ, i64_w, i32_w]
              rfl
            refine pure_ (i := 12) (N := some 11) (v := ?_) (a' := ?_) #[true, true, true, true, true, true, true, true, true, true, true, true, true, false] rfl rfl (any_of HT_.out (by kernel_rfl)) (fun _ _ _ h => h) (Or.inl ⟨by rfl, ?_⟩) ?_ ?_
            rotate_left
            · intro w'
              go_simp
              with_reducible rfl
            rotate_left
            · simp only [Act.put, List.setIfInBounds_toArray, List.set_cons_zero, List.set_cons_succ, i64_w, i32_w]
              rfl
            refine pure_ (i := 13) (N := some 12) (v := ?_) (a' := ?_) #[true, true, true, true, true, true, true, true, true, true, true, true, true, true] rfl rfl (any_of HT_.out (by kernel_rfl)) (fun _ _ _ h => h) (Or.inl ⟨by rfl, ?_⟩) ?_ ?_
            rotate_left
            · intro w'
              go_simp
              with_reducible rfl
            rotate_left
            · simp only [Act.put, List.setIfInBounds_toArray, List.set_cons_zero, List.set_cons_succ, i64_w, i32_w]
              rfl
            refine done_ (done_of HT_.out (by kernel_rfl)) ?_
            try go_wp2
            (try (rw [drewN_self w40]; generalize hq_ : World.drewN w40 _ = w40; have n0_ : Aside0 (Kd.V (Kd.int .u8) 5 w40 w.heap.size (fun k_ => (P3_ k_ ∨ w.heap.size ≤ k_) ∧ k_ ≠ gb368 ∧ k_ ≠ gb369) (.slice A3 l3.length c3) l3) := ⟨by rw [← hq_]; exact (by (with_reducible repeat (first | apply Kd.V_alloc | apply Kd.V_drewN | apply Kd.V_drew)); exact Kd.V_mono HO3.out (fun _ hk => ⟨hk.1.1, ⟨hk.1.2, hk.2⟩⟩))⟩; have n1_ : Aside0 (w40.heap[gb368]? = some (.cells #[.int .i64 a0_0, .int .i64 a0_1, .int .i64 a0_2, .int .u64 a0_3, .int .u64 a0_4, .int .u64 a0_5] 24 (0, 0))) := ⟨by rw [← hq_]; exact (by (with_reducible repeat (first | refine blk_drewN ?_ _ | refine blk_drew ?_ | refine blk_alloc ?_ _)); exact BK368.out)⟩; have n2_ : Aside0 (w40.heap[gb369]? = some (.cells #[.int .u64 a2_0, .int .u64 a2_1] 49 (0, 0))) := ⟨by rw [← hq_]; exact (by (with_reducible repeat (first | refine blk_drewN ?_ _ | refine blk_drew ?_ | refine blk_alloc ?_ _)); exact BK369.out)⟩; have n3_ : Aside0 (Below w.heap.size w w40) := ⟨by rw [← hq_]; exact (by repeat (first | (with_reducible first | exact HB.out | apply below_alloc | apply pw_below_drewN | apply below_drew1 | refine below_set ?_ GE368.out | refine below_set ?_ GE369.out) | exact HB.out))⟩; clear HO3 BK368 BK369 HB hq_; have HO3 := n0_; have BK368 := n1_; have BK369 := n2_; have HB := n3_; clear n0_ n1_ n2_ n3_))
            have n0_ := Aside0.mk (Kd.V_drew HO3.out)
            have n1_ := Aside0.mk (blk_drew BK368.out)
            have n2_ := Aside0.mk (blk_drew BK369.out)
            have n3_ := Aside0.mk (below_drew1 HB.out)
            clear HO3
            clear BK368
            clear BK369
            clear HB
            have HO3 := n0_
            have BK368 := n1_
            have BK369 := n2_
            have HB := n3_
            clear n0_ n1_ n2_ n3_
            have p382 : 0 ≤ ((ji29) : Int) := of_decide_eq_true (by first | (with_reducible assumption) | assumption)
            have q382 : (ji29) < (l4.length : Int) := of_decide_eq_true (by first | (with_reducible assumption) | assumption)
            obtain ⟨ad382, A382_0, c382_0, e382, hx382_0, hl382_0, hi382_0⟩ := at_L1 HR4.out (ji29) p382 q382
            have hw382_0 := hx382_0
            cases e382
            replace hx382_0 := (HB.out.cell (World.block_lt_of_cell? w _ hx382_0)).trans hx382_0
            have HR382_0 := Aside0.mk hi382_0
            have HC382_0 := Aside0.mk hl382_0
            clear hi382_0 hl382_0
            replace p382 := eq_true p382
            replace q382 := eq_true q382
            have q42 : ((ji29) : Int) ≤ ((l4.length : Int) : Int) := of_decide_eq_true (by first | (with_reducible assumption) | assumption)
            obtain ⟨i042, hi042, _, hsz42, _⟩ := info_parts info25
            have hroom42 : l4.length ≤ c4 := HC4.out
            have hC42 : Kd.C (Kd.slice 5 (Kd.int .u8)) _ (some ad382) l4.length l4 := HR4.out
            have hcut42 := cut_to (P := Try.prog) 26 25 .i64 Try.underlying26 hi042 (some ad382) l4.length c4 (ji29) (of_decide_eq_true (by first | (with_reducible assumption) | assumption)) q42 hroom42
            have hr42 := Kd.C_take (m := ((ji29) : Int).toNat) hC42 (by omega)
            have hy42 : y383.length = ((ji29) : Int).toNat := (by rw [Ny383.out, List.length_take]; omega)
            rw [← Ny383.out] at hr42
            rw [← hy42] at hcut42
            have HR386 := Aside0.mk hr42
            have HC386 := Aside0.mk (show y383.length ≤ c4 from by omega)
            clear hr42 hC42 hroom42 hi042 hsz42
            have KY42 := Aside0.mk hy42
            clear hy42
            replace q42 := eq_true q42
            refine start_ (n := 18) (S := fun w' => w'.cell? ⟨gb368, 0, none⟩ = some (.int .i64 a0_0) ∧ w'.cell? ⟨gb368, 1, none⟩ = some (.int .i64 a0_1) ∧ w'.cell? ⟨gb368, 2, none⟩ = some (.int .i64 a0_2) ∧ w'.cell? ⟨gb368, 3, none⟩ = some (.int .u64 a0_3) ∧ w'.cell? ⟨gb368, 4, none⟩ = some (.int .u64 a0_4) ∧ w'.cell? ⟨gb368, 5, none⟩ = some (.int .u64 a0_5) ∧ w'.cell? ⟨gb369, 0, none⟩ = some (.int .u64 a2_0) ∧ w'.cell? ⟨gb369, 1, none⟩ = some (.int .u64 a2_1) ∧ w'.cell? (ad382.add ((ji29)).toNat) = some (.slice A382_0 (rd_L1 l4 (ji29)).length c382_0)) (ds := []) #[false, false, false, false, false, false, false, false, false, false, false, false, false, false, false, false, false, false] (by kernel_rfl) rfl rfl ⟨(blk_cell BK368.out 0).trans rfl, (blk_cell BK368.out 1).trans rfl, (blk_cell BK368.out 2).trans rfl, (blk_cell BK368.out 3).trans rfl, (blk_cell BK368.out 4).trans rfl, (blk_cell BK368.out 5).trans rfl, (blk_cell BK369.out 0).trans rfl, (blk_cell BK369.out 1).trans rfl, ((HB.out.cell (World.block_lt_of_cell? w _ hw382_0)).trans hw382_0)⟩ (fun hHeld => ?_); refine with_tabW spec_rootIn.tab6 spec_rootIn.bits6 (fun HT_ HW_ => ?_)
            generalize w40.drew = w41 at HO3 BK368 BK369 HB HR382_0 HR386 hx382_0 hHeld ⊢
            refine pure_ (i := 1) (N := some 53) (v := ?_) (a' := ?_) #[false, true, false, false, false, false, false, false, false, false, false, false, false, false, false, false, false, false] rfl rfl (any_of HT_.out (by kernel_rfl)) (fun _ _ _ h => h) (Or.inl ⟨by rfl, ?_⟩) ?_ ?_
            rotate_left
            · intro w'
              go_simp
              with_reducible rfl
            rotate_left
            · simp only [Act.put, List.setIfInBounds_toArray, List.set_cons_zero, List.set_cons_succ, i64_w, i32_w]
              rfl
            refine pure_ (i := 2) (N := some 54) (v := ?_) (a' := ?_) #[false, true, true, false, false, false, false, false, false, false, false, false, false, false, false, false, false, false] rfl rfl (any_of HT_.out (by kernel_rfl)) (fun _ _ _ h => h) (Or.inl ⟨by rfl, ?_⟩) ?_ ?_
            rotate_left
            · intro w'
              go_simp
              with_reducible rfl
            rotate_left
            · simp only [Act.put, List.setIfInBounds_toArray, List.set_cons_zero, List.set_cons_succ, i64_w, i32_w]
              rfl
            refine pure_ (i := 3) (N := some 55) (v := ?_) (a' := ?_) #[false, true, true, true, false, false, false, false, false, false, false, false, false, false, false, false, false, false] rfl rfl (any_of HT_.out (by kernel_rfl)) (fun _ _ _ h => h) (Or.inl ⟨by rfl, ?_⟩) ?_ ?_
            rotate_left
            · intro w'
              go_simp
              with_reducible rfl
            rotate_left
            · simp only [Act.put, List.setIfInBounds_toArray, List.set_cons_zero, List.set_cons_succ, i64_w, i32_w]
              rfl
            refine pure_ (i := 6) (N := some 58) (v := ?_) (a' := ?_) #[false, true, true, true, false, false, true, false, false, false, false, false, false, false, false, false, false, false] rfl rfl (any_of HT_.out (by kernel_rfl)) (fun _ _ _ h => h) (Or.inl ⟨by rfl, ?_⟩) ?_ ?_
            rotate_left
            · intro w'
              go_simp
              with_reducible rfl
            rotate_left
            · simp only [Act.put, List.setIfInBounds_toArray, List.set_cons_zero, List.set_cons_succ, i64_w, i32_w]
              rfl
            refine pure_ (i := 7) (N := some 59) (v := ?_) (a' := ?_) #[false, true, true, true, false, false, true, true, false, false, false, false, false, false, false, false, false, false] rfl rfl (any_of HT_.out (by kernel_rfl)) (fun _ _ _ h => h) (Or.inl ⟨by rfl, ?_⟩) ?_ ?_
            rotate_left
            · intro w'
              go_simp
              with_reducible rfl
            rotate_left
            · simp only [Act.put, List.setIfInBounds_toArray, List.set_cons_zero, List.set_cons_succ, i64_w, i32_w]
              rfl
            refine pure_ (i := 8) (N := some 60) (v := ?_) (a' := ?_) #[false, true, true, true, false, false, true, true, true, false, false, false, false, false, false, false, false, false] rfl rfl (any_of HT_.out (by kernel_rfl)) (fun _ _ _ h => h) (Or.inl ⟨by rfl, ?_⟩) ?_ ?_
            rotate_left
            · intro w'
              go_simp
              with_reducible rfl
            rotate_left
            · simp only [Act.put, List.setIfInBounds_toArray, List.set_cons_zero, List.set_cons_succ, i64_w, i32_w]
              rfl
            refine pure_ (i := 11) (N := some 63) (v := ?_) (a' := ?_) #[false, true, true, true, false, false, true, true, true, false, false, true, false, false, false, false, false, false] rfl rfl (any_of HT_.out (by kernel_rfl)) (fun _ _ _ h => h) (Or.inl ⟨by rfl, ?_⟩) ?_ ?_
            rotate_left
            · intro w'
              go_simp
              with_reducible rfl
            rotate_left
            · simp only [Act.put, List.setIfInBounds_toArray, List.set_cons_zero, List.set_cons_succ, i64_w, i32_w]
              rfl
            refine pure_ (i := 12) (N := some 64) (v := ?_) (a' := ?_) #[false, true, true, true, false, false, true, true, true, false, false, true, true, false, false, false, false, false] rfl rfl (any_of HT_.out (by kernel_rfl)) (fun _ _ _ h => h) (Or.inl ⟨by rfl, ?_⟩) ?_ ?_
            rotate_left
            · intro w'
              go_simp
              with_reducible rfl
            rotate_left
            · simp only [Act.put, List.setIfInBounds_toArray, List.set_cons_zero, List.set_cons_succ, i64_w, i32_w]
              rfl
            refine pure_ (i := 13) (N := some 65) (v := ?_) (a' := ?_) #[false, true, true, true, false, false, true, true, true, false, false, true, true, true, false, false, false, false] rfl rfl (any_of HT_.out (by kernel_rfl)) (fun _ _ _ h => h) (Or.inl ⟨by rfl, ?_⟩) ?_ ?_
            rotate_left
            · intro w'
              go_simp
              with_reducible rfl
            rotate_left
            · simp only [Act.put, List.setIfInBounds_toArray, List.set_cons_zero, List.set_cons_succ, i64_w, i32_w]
              rfl
            refine pure_ (i := 14) (N := some 66) (v := ?_) (a' := ?_) #[false, true, true, true, false, false, true, true, true, false, false, true, true, true, true, false, false, false] rfl rfl (any_of HT_.out (by kernel_rfl)) (fun _ _ _ h => h) (Or.inl ⟨by rfl, ?_⟩) ?_ ?_
            rotate_left
            · intro w'
              go_simp
              with_reducible rfl
            rotate_left
            · simp only [Act.put, List.setIfInBounds_toArray, List.set_cons_zero, List.set_cons_succ, i64_w, i32_w]
              rfl
            refine take_ (i := 0) (N := some 52) (v := ?_) (a' := ?_) #[true, true, true, true, false, false, true, true, true, false, false, true, true, true, true, false, false, false] rfl rfl (take_ofW HT_.out HW_.out (by kernel_rfl)) (fun _ _ _ h => h) (Or.inl ⟨by rfl, ?_⟩) hHeld ?_ ?_
            rotate_left
            · rintro w' ⟨s0, s1, s2, s3, s4, s5, s6, s7, s8⟩
              go_simp
              with_reducible rfl
            rotate_left
            · simp only [Act.put, List.setIfInBounds_toArray, List.set_cons_zero, List.set_cons_succ, i64_w, i32_w]
              rfl
            refine take_ (i := 4) (N := some 56) (v := ?_) (a' := ?_) #[true, true, true, true, true, false, true, true, true, false, false, true, true, true, true, false, false, false] rfl rfl (take_ofW HT_.out HW_.out (by kernel_rfl)) (fun _ _ _ h => h) (Or.inl ⟨by rfl, ?_⟩) hHeld ?_ ?_
            rotate_left
            · rintro w' ⟨s0, s1, s2, s3, s4, s5, s6, s7, s8⟩
              go_simp
              with_reducible rfl
            rotate_left
            · simp only [Act.put, List.setIfInBounds_toArray, List.set_cons_zero, List.set_cons_succ, i64_w, i32_w]
              rfl
            refine take_ (i := 5) (N := some 57) (v := ?_) (a' := ?_) #[true, true, true, true, true, true, true, true, true, false, false, true, true, true, true, false, false, false] rfl rfl (take_ofW HT_.out HW_.out (by kernel_rfl)) (fun _ _ _ h => h) (Or.inl ⟨by rfl, ?_⟩) hHeld ?_ ?_
            rotate_left
            · rintro w' ⟨s0, s1, s2, s3, s4, s5, s6, s7, s8⟩
              go_simp
              with_reducible rfl
            rotate_left
            · simp only [Act.put, List.setIfInBounds_toArray, List.set_cons_zero, List.set_cons_succ, i64_w, i32_w]
              rfl
            refine take_ (i := 9) (N := some 61) (v := ?_) (a' := ?_) #[true, true, true, true, true, true, true, true, true, true, false, true, true, true, true, false, false, false] rfl rfl (take_ofW HT_.out HW_.out (by kernel_rfl)) (fun _ _ _ h => h) (Or.inl ⟨by rfl, ?_⟩) hHeld ?_ ?_
            rotate_left
            · rintro w' ⟨s0, s1, s2, s3, s4, s5, s6, s7, s8⟩
              go_simp
              with_reducible rfl
            rotate_left
            · simp only [Act.put, List.setIfInBounds_toArray, List.set_cons_zero, List.set_cons_succ, i64_w, i32_w]
              rfl
            refine pure_ (i := 10) (N := some 62) (v := ?_) (a' := ?_) #[true, true, true, true, true, true, true, true, true, true, true, true, true, true, true, false, false, false] rfl rfl (any_of HT_.out (by kernel_rfl)) (fun _ _ _ h => h) (Or.inl ⟨by rfl, ?_⟩) ?_ ?_
            rotate_left
            · intro w'
              go_simp
              with_reducible rfl
            rotate_left
            · simp only [Act.put, List.setIfInBounds_toArray, List.set_cons_zero, List.set_cons_succ, i64_w, i32_w]
              rfl
            refine one_ (i := 15) (N := some 67) #[true, true, true, true, true, true, true, true, true, true, true, true, true, true, true, true, false, false] rfl rfl (one_of HT_.out (by kernel_rfl)) (by decide) (fun K hK => ?_)
            refine goes_ Try.func20 (by kernel_rfl) rfl #[.agg #[.int .i64 a0_0, .int .i64 a0_1, .int .i64 a0_2, .int .u64 a0_3, .int .u64 a0_4, .int .u64 a0_5], .int .u64 a1, .agg #[.int .u64 (IntKind.u64.wrap (a2_0 + t370)), .int .u64 a2_1], .slice A3 l3.length c3, .slice (some ad382) y383.length c4] (by rfl) rfl rfl (by (try simp only [List.map_toArray, List.map_cons, List.map_nil]); first | done | rfl | (simp only [List.length_drop, List.length_take]; rfl)) ?_
            with_reducible refine (ih k (by omega) a0_0 a0_1 a0_2 a0_3 a0_4 a0_5 a1 (IntKind.u64.wrap (a2_0 + t370)) a2_1 (fun k_ => (((P3_ k_ ∨ w.heap.size ≤ k_) ∧ k_ ≠ gb368) ∧ k_ ≠ gb369)) _ _ l3 _ _ y383 t387 _ ?side1 ?side2 ?side3 A34.out).mono ?_
            (case side1 => first | exact HO3.out | exact Kd.V_mono HO3.out (fun k_ hk_ => ⟨⟨hk_.1, hk_.2.1⟩, hk_.2.2⟩))
            (case side2 => repeat (first | exact (Kd.C_below HR386.out HB.out) | (with_reducible refine Kd.C_alloc ?_ _) | (with_reducible refine Kd.C_drewN ?_ _) | (with_reducible refine Kd.C_drew ?_)))
            (case side3 => exact HC386.out)
            rintro e w43 ⟨v388, rfl, ho0, hb⟩
            refine ⟨_, rfl, ?_⟩
            have n0_ := Aside0.mk (Kd.V_below (by (with_reducible repeat (first | apply Kd.V_alloc | apply Kd.V_drewN | apply Kd.V_drew)); exact HO3.out) hb)
            have n1_ := Aside0.mk (Kd.V_lower (Kd.V_mono (ok' := fun k_ => (P3_ k_ ∨ w.heap.size ≤ k_) ∧ k_ ≠ gb368 ∧ k_ ≠ gb369) ho0 (fun k_ hk_ => ⟨Or.elim hk_ (fun hs_ => hs_.1.1) (fun hn_ => (.inr (Nat.le_trans (below_size (by repeat (first | (with_reducible first | exact HB.out | apply below_alloc | apply pw_below_drewN | apply below_drew1 | refine below_set ?_ GE368.out | refine below_set ?_ GE369.out) | exact HB.out))) hn_))), Or.elim hk_ (fun hs_ => hs_.1.2) (fun hn_ => (Kd.freshB (g := gb368) (o := .cells #[.int .i64 a0_0, .int .i64 a0_1, .int .i64 a0_2, .int .u64 a0_3, .int .u64 a0_4, .int .u64 a0_5] 24 (0, 0)) (by (with_reducible repeat (first | refine blk_drewN ?_ _ | refine blk_drew ?_ | refine blk_alloc ?_ _)); exact BK368.out) k_ hn_)), Or.elim hk_ (fun hs_ => hs_.2) (fun hn_ => (Kd.freshB (g := gb369) (o := .cells #[.int .u64 a2_0, .int .u64 a2_1] 49 (0, 0)) (by (with_reducible repeat (first | refine blk_drewN ?_ _ | refine blk_drew ?_ | refine blk_alloc ?_ _)); exact BK369.out) k_ hn_))⟩)) (below_size (by repeat (first | (with_reducible first | exact HB.out | apply below_alloc | apply pw_below_drewN | apply below_drew1 | refine below_set ?_ GE368.out | refine below_set ?_ GE369.out) | exact HB.out))))
            have n2_ := Aside0.mk (blk_below (g := gb368) (o := .cells #[.int .i64 a0_0, .int .i64 a0_1, .int .i64 a0_2, .int .u64 a0_3, .int .u64 a0_4, .int .u64 a0_5] 24 (0, 0)) (by (with_reducible repeat (first | refine blk_drewN ?_ _ | refine blk_drew ?_ | refine blk_alloc ?_ _)); exact BK368.out) hb)
            have n3_ := Aside0.mk (blk_below (g := gb369) (o := .cells #[.int .u64 a2_0, .int .u64 a2_1] 49 (0, 0)) (by (with_reducible repeat (first | refine blk_drewN ?_ _ | refine blk_drew ?_ | refine blk_alloc ?_ _)); exact BK369.out) hb)
            have n4_ := Aside0.mk (below_step (by repeat (first | (with_reducible first | exact HB.out | apply below_alloc | apply pw_below_drewN | apply below_drew1 | refine below_set ?_ GE368.out | refine below_set ?_ GE369.out) | exact HB.out)) hb)
            clear HO3
            clear BK368
            clear BK369
            clear HB
            have HO3 := n0_
            have HO389 := n1_
            have BK368 := n2_
            have BK369 := n3_
            have HB := n4_
            clear n0_ n1_ n2_ n3_ n4_
            (try clear hb)
            (try clear hb2)
            (try clear hk)
            (try clear hi)
            (try clear ho0)
            obtain ⟨Ao44, co44, eo44⟩ := Kd.V_slice HO389.out
            (first | subst eo44 | (injection eo44 with f1_ f2_ f3_; have f4_ := f1_.symm; have f5_ := f3_.symm; clear f1_ f2_ f3_; subst f4_; subst f5_))
            refine hK.out _ _ ⟨(blk_cell BK368.out 0).trans rfl, (blk_cell BK368.out 1).trans rfl, (blk_cell BK368.out 2).trans rfl, (blk_cell BK368.out 3).trans rfl, (blk_cell BK368.out 4).trans rfl, (blk_cell BK368.out 5).trans rfl, (blk_cell BK369.out 0).trans rfl, (blk_cell BK369.out 1).trans rfl, ((HB.out.cell (World.block_lt_of_cell? w _ hw382_0)).trans hw382_0)⟩ (fun hHeld => ?_)
            clear hK K
            refine norm_ (a' := ?_) ?_ ?_
            rotate_left
            · show Act.put _ (some 67) _ = _
              simp only [Act.put, List.setIfInBounds_toArray, List.set_cons_zero, List.set_cons_succ, i64_w, i32_w]
              rfl
            refine one_ (i := 16) (N := some 68) #[true, true, true, true, true, true, true, true, true, true, true, true, true, true, true, true, true, false] rfl rfl (one_of HT_.out (by kernel_rfl)) (by decide) (fun K hK => ?_)
            refine goes_ Try.func27 (by kernel_rfl) rfl #[.agg #[.int .i64 a0_0, .int .i64 a0_1, .int .i64 a0_2, .int .u64 a0_3, .int .u64 a0_4, .int .u64 a0_5], .slice A382_0 (rd_L1 l4 (ji29)).length c382_0, .slice Ao44 t387.length co44] (by rfl) rfl rfl (by (try simp only [List.map_toArray, List.map_cons, List.map_nil]); first | done | (simp only [hji29]; rfl) | rfl | (simp only [List.length_drop, List.length_take]; rfl)) ?_
            with_reducible refine (spec_HashChildren.calls k a0_0 a0_1 a0_2 a0_3 a0_4 a0_5 _ _ (rd_L1 l4 (ji29)) _ _ t387 t390 _ ?side1 ?side2 ?side3 ?side4 A35.out).mono ?_
            (case side1 => repeat (first | exact (Kd.C_below HR382_0.out HB.out) | (with_reducible refine Kd.C_alloc ?_ _) | (with_reducible refine Kd.C_drewN ?_ _) | (with_reducible refine Kd.C_drew ?_)))
            (case side2 => exact HC382_0.out)
            (case side3 => repeat (first | exact (Kd.V_reads' HO389.out).2.2 | (with_reducible refine Kd.C_alloc ?_ _) | (with_reducible refine Kd.C_drewN ?_ _) | (with_reducible refine Kd.C_drew ?_)))
            (case side4 => exact (Kd.V_reads' HO389.out).2.1)
            rintro e w45 ⟨v391, rfl, ho0, hb⟩
            refine ⟨_, rfl, ?_⟩
            have n0_ := Aside0.mk (Kd.V_elder' (by (with_reducible repeat (first | apply Kd.V_alloc | apply Kd.V_drewN | apply Kd.V_drew)); exact HO3.out) (Kd.R_base ho0) hb)
            have n1_ := Aside0.mk (Kd.V_elder' (by (with_reducible repeat (first | apply Kd.V_alloc | apply Kd.V_drewN | apply Kd.V_drew)); exact HO389.out) (Kd.R_base ho0) hb)
            have n2_ := Aside0.mk (Kd.R_lower (Kd.R_newM (M := fun k_ => (w.heap.size ≤ k_)) ho0 (below_size (by repeat (first | (with_reducible first | exact HB.out | apply below_alloc | apply pw_below_drewN | apply below_drew1 | refine below_set ?_ GE368.out | refine below_set ?_ GE369.out) | exact HB.out))) (fun k_ h_ => h_)) (below_size (by repeat (first | (with_reducible first | exact HB.out | apply below_alloc | apply pw_below_drewN | apply below_drew1 | refine below_set ?_ GE368.out | refine below_set ?_ GE369.out) | exact HB.out))))
            have n3_ := Aside0.mk (blk_below (g := gb368) (o := .cells #[.int .i64 a0_0, .int .i64 a0_1, .int .i64 a0_2, .int .u64 a0_3, .int .u64 a0_4, .int .u64 a0_5] 24 (0, 0)) (by (with_reducible repeat (first | refine blk_drewN ?_ _ | refine blk_drew ?_ | refine blk_alloc ?_ _)); exact BK368.out) hb)
            have n4_ := Aside0.mk (blk_below (g := gb369) (o := .cells #[.int .u64 a2_0, .int .u64 a2_1] 49 (0, 0)) (by (with_reducible repeat (first | refine blk_drewN ?_ _ | refine blk_drew ?_ | refine blk_alloc ?_ _)); exact BK369.out) hb)
            have n5_ := Aside0.mk (below_step (by repeat (first | (with_reducible first | exact HB.out | apply below_alloc | apply pw_below_drewN | apply below_drew1 | refine below_set ?_ GE368.out | refine below_set ?_ GE369.out) | exact HB.out)) hb)
            clear HO3
            clear HO389
            clear BK368
            clear BK369
            clear HB
            have HO3 := n0_
            have HO389 := n1_
            have HO392 := n2_
            have BK368 := n3_
            have BK369 := n4_
            have HB := n5_
            clear n0_ n1_ n2_ n3_ n4_ n5_
            (try clear hb)
            (try clear hb2)
            (try clear hk)
            (try clear hi)
            (try clear ho0)
            refine hK.out _ _ ⟨(blk_cell BK368.out 0).trans rfl, (blk_cell BK368.out 1).trans rfl, (blk_cell BK368.out 2).trans rfl, (blk_cell BK368.out 3).trans rfl, (blk_cell BK368.out 4).trans rfl, (blk_cell BK368.out 5).trans rfl, (blk_cell BK369.out 0).trans rfl, (blk_cell BK369.out 1).trans rfl, ((HB.out.cell (World.block_lt_of_cell? w _ hw382_0)).trans hw382_0)⟩ (fun hHeld => ?_)
            clear hK K
            refine norm_ (a' := ?_) ?_ ?_
            rotate_left
            · show Act.put _ (some 68) _ = _
              simp only [Act.put, List.setIfInBounds_toArray, List.set_cons_zero, List.set_cons_succ, i64_w, i32_w]
              rfl
            refine pure_ (i := 17) (N := some 10) (v := ?_) (a' := ?_) #[true, true, true, true, true, true, true, true, true, true, true, true, true, true, true, true, true, true] rfl rfl (any_of HT_.out (by kernel_rfl)) (fun _ _ _ h => h) (Or.inl ⟨by rfl, ?_⟩) ?_ ?_
            rotate_left
            · intro w'
              go_simp
              with_reducible rfl
            rotate_left
            · simp only [Act.put, List.setIfInBounds_toArray, List.set_cons_zero, List.set_cons_succ, i64_w, i32_w]
              rfl
            refine done_ (done_of HT_.out (by kernel_rfl)) ?_
            try go_wp2
            go_ret
            exact ⟨_, by first | rfl | (simp [errW_none, errW_some] <;> rfl) | (simp only [← hji29]; first | rfl | (simp [errW_none, errW_some] <;> rfl)) | (simp [*, errW_none, errW_some] <;> rfl), Kd.V_mono (Kd.R_V (by (with_reducible repeat (first | apply Kd.R_alloc | apply Kd.R_drewN | apply Kd.R_drew)); exact Kd.R_mono HO392.out (fun _ hk => hk.1))) (fun k_ hk => by first | exact ⟨(.inr (hk.1)), hk.2⟩ | exact (.inr (hk))), by repeat (first | (with_reducible first | exact HB.out | apply below_alloc | apply pw_below_drewN | apply below_drew1 | refine below_set ?_ GE368.out | refine below_set ?_ GE369.out) | exact HB.out)⟩
          · rw [if_neg c33] at H
            exact absurd H (by simp)
        · rw [if_neg c31] at H
          exact absurd H (by simp)
      · rw [if_neg c30] at H
        exact absurd H (by simp)

end Go.Proofs.Ytijldedhcjkhiaa.X
