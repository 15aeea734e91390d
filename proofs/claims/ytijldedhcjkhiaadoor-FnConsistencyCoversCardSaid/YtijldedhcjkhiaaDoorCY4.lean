import Derived.Test.YtijldedhcjkhiaaDoorCY0
import Derived.Test.YtijldedhcjkhiaaDoorCY3
namespace Go.Proofs.YtijldedhcjkhiaaDoor.Y
open Go.RowKit Go.Proofs.YtijldedhcjkhiaaDoorW.PrintWords Go.Proofs.YtijldedhcjkhiaaDoorW.PrintLast Go.Proofs.YtijldedhcjkhiaaDoorW.PrintMore
attribute [local go_sem] max2_int min2_int max_two min_two max_three min_three max_four min_four   -- for this text's walks alone
set_option linter.unusedVariables false
set_option linter.unusedSimpArgs false
def impl_fromNode.f (a0_0 : Int) (a0_1 : Int) : Option (Int × Int) := some (a0_0, a0_1)
set_option maxHeartbeats 8000000 in
set_option maxRecDepth 100000 in
theorem impl_fromNode.calls (a0_0 : Int) (a0_1 : Int) (r1 : Int) (r2 : Int) (w : World) (h : impl_fromNode.f a0_0 a0_1 = some (r1, r2)) :
    Calls Tryd.prog 73 #[.agg #[.int .u64 a0_0, .int .u64 a0_1]] w fun e w' => e = .returned (.agg #[.int .u64 r1, .int .u64 r2]) ∧ Below w.heap.size w w' := by
  have hu107 := Tryd.underlying107
  have hu70 := Tryd.underlying70
  have HB := Aside0.mk (Below.refl w.heap.size w)
  have H : (some (a0_0, a0_1)) = some (r1, r2) := h
  clear h
  simp only [Option.some.injEq, Prod.mk.injEq] at H
  obtain ⟨rfl, rfl⟩ := H
  go_enter Tryd.func73, Tryd.ntmps73
  go_wp2_with (first | ((with_reducible refine gate_dst (N := 1) rfl ?_); refine box_event ?hg (N := 1) ?hd (cs := #[.int .u64 a0_0, .int .u64 a0_1]) (t := 107) ?hr ?_; (case hd => rfl); (case hg => rfl); (case hr => first | (go_simp; done) | (go_simp; rfl)); intro gb220 hg w2 hbox hb; have n0_ := Aside0.mk (below_step (by repeat (first | (with_reducible first | exact HB.out | apply below_alloc | apply pw_below_drewN | apply below_drew1) | exact HB.out)) hb); have n1_ := Aside0.mk (hbox); have n2_ := Aside0.mk ((by rw [hg]; exact (below_size (by repeat (first | (with_reducible first | exact HB.out | apply below_alloc | apply pw_below_drewN | apply below_drew1) | exact HB.out))) : w.heap.size ≤ gb220)); have n3_ := Aside0.mk ((by rw [hg]; exact (below_size (by repeat (first | (with_reducible first | exact HB.out | apply below_alloc | apply pw_below_drewN | apply below_drew1) | exact HB.out))) : w.heap.size ≤ gb220)); clear HB; have HB := n0_; have BK220 := n1_; have GW220 := n2_; have GE220 := n3_; clear n0_ n1_ n2_ n3_; clear hb hbox hg) | ((with_reducible refine gate_dst (N := 2) rfl ?_); refine box_event ?hg (N := 2) ?hd (cs := #[.int .u64 0, .int .u64 0]) (t := 70) ?hr ?_; (case hd => rfl); (case hg => rfl); (case hr => first | (go_simp; done) | (go_simp; rfl)); intro gb221 hg w3 hbox hb; have n0_ := Aside0.mk (blk_below (g := gb220) (o := .cells #[.int .u64 a0_0, .int .u64 a0_1] 107 (0, 0)) (by (with_reducible repeat (first | refine blk_drewN ?_ _ | refine blk_drew ?_ | refine blk_alloc ?_ _)); exact BK220.out) hb); have n1_ := Aside0.mk (below_step (by repeat (first | (with_reducible first | exact HB.out | apply below_alloc | apply pw_below_drewN | apply below_drew1 | refine below_set ?_ GE220.out) | exact HB.out)) hb); have n2_ := Aside0.mk (hbox); have n3_ := Aside0.mk ((by rw [hg]; exact (below_size (by repeat (first | (with_reducible first | exact HB.out | apply below_alloc | apply pw_below_drewN | apply below_drew1 | refine below_set ?_ GE220.out) | exact HB.out))) : w.heap.size ≤ gb221)); have n4_ := Aside0.mk ((by rw [hg]; exact (below_size (by repeat (first | (with_reducible first | exact HB.out | apply below_alloc | apply pw_below_drewN | apply below_drew1 | refine below_set ?_ GE220.out) | exact HB.out))) : w.heap.size ≤ gb221)); have n5_ := Aside0.mk ((by rw [hg]; exact Nat.ne_of_lt (blk_lt (g := gb220) (o := .cells #[.int .u64 a0_0, .int .u64 a0_1] 107 (0, 0)) (by (with_reducible repeat (first | refine blk_drewN ?_ _ | refine blk_drew ?_ | refine blk_alloc ?_ _)); exact BK220.out)) : gb220 ≠ gb221)); have n6_ := Aside0.mk ((by rw [hg]; exact Nat.ne_of_gt (blk_lt (g := gb220) (o := .cells #[.int .u64 a0_0, .int .u64 a0_1] 107 (0, 0)) (by (with_reducible repeat (first | refine blk_drewN ?_ _ | refine blk_drew ?_ | refine blk_alloc ?_ _)); exact BK220.out)) : gb221 ≠ gb220)); clear BK220; clear HB; have BK220 := n0_; have HB := n1_; have BK221 := n2_; have GW221 := n3_; have GE221 := n4_; have NB220_221 := n5_; have NB221_220 := n6_; clear n0_ n1_ n2_ n3_ n4_ n5_ n6_; clear hb hbox hg; have hnb4 := NB220_221.out; have hnc4 := NB221_220.out; have hcz5_0 : w3.cell? ⟨gb220, 0, none⟩ = some (.int .u64 a0_0) := (blk_cell BK220.out 0).trans rfl; have hcz5_1 : w3.cell? ⟨gb220, 1, none⟩ = some (.int .u64 a0_1) := (blk_cell BK220.out 1).trans rfl; have hfz5_0 := blk_frozen BK220.out 0; have hfz5_1 := blk_frozen BK220.out 1; have hcz6_0 : w3.cell? ⟨gb221, 0, none⟩ = some (.int .u64 0) := (blk_cell BK221.out 0).trans rfl; have hcz6_1 : w3.cell? ⟨gb221, 1, none⟩ = some (.int .u64 0) := (blk_cell BK221.out 1).trans rfl; have hfz6_0 := blk_frozen BK221.out 0; have hfz6_1 := blk_frozen BK221.out 1))
  refine bodyPost_ret (results_cell_row rfl _ _ gb221 70 #[.int .u64 a0_0, .int .u64 a0_1] (0, 0) _ rfl (by (with_reducible repeat (first | refine blk_drewN ?_ _ | refine blk_drew ?_ | refine blk_alloc ?_ _)); refine blk_put (cs := #[.int .u64 a0_0, .int .u64 0]) ?_ 1 _ rfl; (with_reducible repeat (first | refine blk_drewN ?_ _ | refine blk_drew ?_ | refine blk_alloc ?_ _)); refine blk_put (cs := #[.int .u64 0, .int .u64 0]) ?_ 0 _ rfl; (with_reducible repeat (first | refine blk_drewN ?_ _ | refine blk_drew ?_ | refine blk_alloc ?_ _)); exact BK221.out) Tryd.underlying70 rfl (by kernel_rfl)) rfl ?_
  exact ⟨by first | rfl | (simp [errW_none, errW_some] <;> rfl) | (simp [*, errW_none, errW_some] <;> rfl), by repeat (first | (with_reducible first | exact HB.out | apply below_alloc | apply pw_below_drewN | apply below_drew1 | refine below_set ?_ GE220.out | refine below_set ?_ GE221.out) | exact HB.out)⟩
def impl_fromNodes.l0 : Nat → List (S70) → List (S107) → Int → Int → Option ((List (S70)))
  | 0, _, _, _, _ => none
  | k + 1, x3, x6, x7, x8 => if x8 < x7 then (if 0 ≤ x8 then (if x8 < (x6.length : Int) then ((impl_fromNode.f ((rd_T107 x6 x8).f0) ((rd_T107 x6 x8).f1)).bind fun bt224 => (if x3.length < 8796093022208 then (impl_fromNodes.l0 k (x3 ++ [(⟨bt224.1, bt224.2⟩ : S70)]) x6 x7 (wrap64 (x8 + 1))) else (none))) else (none)) else (none)) else (some x3)
def impl_fromNodes.f (k : Nat) (l0 : List (S107)) : Option ((List (S70))) := impl_fromNodes.l0 k ([] : List (S70)) l0 (l0.length : Int) 0
theorem impl_fromNodes.mono_l : ∀ k, (∀ y0 y1 y2 y3, LeO (impl_fromNodes.l0 k y0 y1 y2 y3) (impl_fromNodes.l0 (k + 1) y0 y1 y2 y3))
  | 0 => fun _ _ _ _ r h => by simp [impl_fromNodes.l0] at h
  | k + 1 => by
    have ih0 := impl_fromNodes.mono_l k
    · intro y0 y1 y2 y3
      unfold impl_fromNodes.l0
      repeat' first
      | (with_reducible exact ih0 _ _ _ _)
      | (with_reducible exact LeO.refl _)
      | (with_reducible exact LeO.none _)
      | (with_reducible refine LeO.ite ?_ ?_)
      | (with_reducible refine LeO.bind ?_ (fun _ => ?_))
      | exact ih0 _ _ _ _
      | exact LeO.none _
      | refine LeO.ite ?_ ?_
      | refine LeO.bind ?_ (fun _ => ?_)
theorem impl_fromNodes.mono : ∀ a0 k, LeO (impl_fromNodes.f k a0) (impl_fromNodes.f (k + 1) a0) := by
  intro a0 k
  have ih0 := impl_fromNodes.mono_l k
  unfold impl_fromNodes.f
  repeat' first
      | (with_reducible exact ih0 _ _ _ _)
      | (with_reducible exact LeO.refl _)
      | (with_reducible exact LeO.none _)
      | (with_reducible refine LeO.ite ?_ ?_)
      | (with_reducible refine LeO.bind ?_ (fun _ => ?_))
      | exact ih0 _ _ _ _
      | exact LeO.none _
      | refine LeO.ite ?_ ?_
      | refine LeO.bind ?_ (fun _ => ?_)
set_option maxHeartbeats 8000000 in
set_option maxRecDepth 100000 in
theorem impl_fromNodes.calls (k : Nat) (A0 : Option Addr) (c0 : Nat) (l0 : List (S107)) (r : List (S70)) (w : World) (hr0 : Kd.C k107 w A0 l0.length l0) (hc0 : l0.length ≤ c0) (h : impl_fromNodes.f k l0 = some r) :
    Calls Tryd.prog 64 #[.slice A0 l0.length c0] w fun e w' => ∃ v0_ : Value, e = .returned (v0_) ∧ Kd.R k70 70 w' w.heap.size (fun _ => True) v0_ r ∧ Below w.heap.size w w' := by
  have hu107 := Tryd.underlying107
  have HR0 := Aside0.mk hr0
  have HC0 := Aside0.mk hc0
  clear hr0 hc0
  have HB := Aside0.mk (Below.refl w.heap.size w)
  have H : (impl_fromNodes.l0 k ([] : List (S70)) l0 (l0.length : Int) 0) = some r := h
  clear h
  have H' := Aside0.mk H
  clear H
  go_enter Tryd.func64, Tryd.ntmps64
  go_wp2
  try simp only [Act.put, List.setIfInBounds_toArray, List.set_cons_zero, List.set_cons_succ]
  go_loopg [3, 8] k (fun kq v3 v8 w' => ∃ (x3_1 : List (S70)) (x8_1 : Int), v8 = .int .i64 x8_1 ∧ Aside0 (impl_fromNodes.l0 kq x3_1 l0 (l0.length : Int) x8_1 = some r) ∧ Aside0 (kq ≤ k) ∧ Aside0 (Kd.R k70 70 w' w.heap.size (fun _ => True) v3 x3_1) ∧ Aside0 (Below w.heap.size w w'))
  case atStart => exact ⟨(([] : List (S70))), (0), (by first | rfl | (simp; done) | (simp [*]; done)), H', ⟨Nat.le_refl _⟩, ⟨by first | exact Kd.R_nil _ _ _ _ _ | exact Kd.N_nil _ _ _ _ _ | exact Kd.V_nil _ _ _ _ _ | exact Kd.Q_nil _ _ _ _ _ | exact Kd.S_nil _ _ _ _ _⟩, ⟨by repeat (first | (with_reducible first | exact HB.out | apply below_alloc | apply pw_below_drewN | apply below_drew1) | exact HB.out)⟩⟩
  case round =>
    clear H'
    obtain ⟨x3_1, x8_1, rfl, HA, HK1, HO_3, HB⟩ := hrel
    cases gk with
    | zero => exact absurd HA.out (by simp [impl_fromNodes.l0])
    | succ k1 =>
      have H := HA.out
      clear HA
      simp only [impl_fromNodes.l0] at H
      by_cases c2 : x8_1 < (l0.length : Int)
      · rw [if_pos c2] at H
        have c2b0 : decide (x8_1 < (l0.length : Int)) = true := decide_eq_true c2
        clear c2
        by_cases c3 : 0 ≤ x8_1
        · rw [if_pos c3] at H
          have c3b0 : decide (0 ≤ x8_1) = true := decide_eq_true c3
          clear c3
          by_cases c4 : x8_1 < (l0.length : Int)
          · rw [if_pos c4] at H
            have c4b0 : decide (x8_1 < (l0.length : Int)) = true := decide_eq_true c4
            clear c4
            replace H := Option.bind_eq_some_iff.mp H
            obtain ⟨⟨t224, t225⟩, A50, H⟩ := H
            replace H : (if x3_1.length < 8796093022208 then (impl_fromNodes.l0 k1 (x3_1 ++ [(⟨t224, t225⟩ : S70)]) l0 (l0.length : Int) (wrap64 (x8_1 + 1))) else (none)) = some r := H
            have A5 := Aside0.mk A50
            clear A50
            by_cases c6 : x3_1.length < 8796093022208
            · rw [if_pos c6] at H
              have LMc6 := Aside0.mk c6
              clear c6
              obtain ⟨y226, hy226⟩ : ∃ y_ : List (S70), y_ = (x3_1 ++ [(⟨t224, t225⟩ : S70)]) := ⟨_, rfl⟩
              replace H : (impl_fromNodes.l0 k1 y226 l0 (l0.length : Int) (wrap64 (x8_1 + 1))) = some r := by first | (rw [hy226]; with_reducible exact H) | (have H2_ := (Option.bind_some _ _).symm.trans H; rw [hy226]; with_reducible exact H2_) | (have H2_ := (Option.bind_some _ _).symm.trans H; with_reducible exact H2_) | with_reducible exact H | (rw [hy226]; exact H) | exact H
              have Ny226 := Aside0.mk hy226
              clear hy226
              have H' := Aside0.mk H
              clear H
              have p222 : 0 ≤ (x8_1 : Int) := of_decide_eq_true (by first | (with_reducible assumption) | assumption)
              have q222 : x8_1 < (l0.length : Int) := of_decide_eq_true (by first | (with_reducible assumption) | assumption)
              obtain ⟨ad222, e222, hx222_0, hx222_1⟩ := at_T107 HR0.out x8_1 p222 q222
              cases e222
              (try replace hx222_0 := (HB.out.cell (World.block_lt_of_cell? w _ hx222_0)).trans hx222_0)
              (try replace hx222_1 := (HB.out.cell (World.block_lt_of_cell? w _ hx222_1)).trans hx222_1)
              replace p222 := eq_true p222
              replace q222 := eq_true q222
              go_wp2_with (first | ((with_reducible refine gate_dst (N := 5) rfl ?_); refine box_event ?hg (N := 5) ?hd (cs := #[.int .u64 0, .int .u64 0]) (t := 107) ?hr ?_; (case hd => rfl); (case hg => rfl); (case hr => first | (go_simp; done) | (go_simp; rfl)); intro gb223 hg w7 hbox hb; have n0_ := Aside0.mk (Kd.R_below (by (with_reducible repeat (first | apply Kd.R_alloc | apply Kd.R_drewN | apply Kd.R_drew)); exact HO_3.out) hb); have n1_ := Aside0.mk (below_step (by repeat (first | (with_reducible first | exact HB.out | apply below_alloc | apply pw_below_drewN | apply below_drew1) | exact HB.out)) hb); have n2_ := Aside0.mk (hbox); have n3_ := Aside0.mk ((by rw [hg]; exact (below_size (by repeat (first | (with_reducible first | exact HB.out | apply below_alloc | apply pw_below_drewN | apply below_drew1) | exact HB.out))) : w.heap.size ≤ gb223)); have n4_ := Aside0.mk ((by rw [hg]; exact (below_size (by repeat (first | (with_reducible first | exact HB.out | apply below_alloc | apply pw_below_drewN | apply below_drew1) | exact HB.out))) : w.heap.size ≤ gb223)); clear HO_3; clear HB; have HO_3 := n0_; have HB := n1_; have BK223 := n2_; have GW223 := n3_; have GE223 := n4_; clear n0_ n1_ n2_ n3_ n4_; clear hb hbox hg; have hcz8_0 : w7.cell? ⟨gb223, 0, none⟩ = some (.int .u64 0) := (blk_cell BK223.out 0).trans rfl; have hcz8_1 : w7.cell? ⟨gb223, 1, none⟩ = some (.int .u64 0) := (blk_cell BK223.out 1).trans rfl; have hfz8_0 := blk_frozen BK223.out 0; have hfz8_1 := blk_frozen BK223.out 1) | ((with_reducible refine gate_callee (f := 73) rfl ?_); refine goesL_ (some 14) rfl rfl Tryd.func73 (by kernel_rfl) rfl #[.agg #[.int .u64 ((rd_T107 l0 x8_1).f0), .int .u64 ((rd_T107 l0 x8_1).f1)]] rfl (by (try simp only [List.map_toArray, List.map_cons, List.map_nil]); first | done | rfl | (simp only [List.length_drop, List.length_take]; rfl)) ?_; (with_reducible refine (impl_fromNode.calls ((rd_T107 l0 x8_1).f0) ((rd_T107 l0 x8_1).f1) t224 t225 _ A5.out).mono ?_); rintro e w9 ⟨rfl, hb⟩; refine ⟨_, rfl, ?_⟩; have n0_ := Aside0.mk (Kd.R_below (by (with_reducible repeat (first | apply Kd.R_alloc | apply Kd.R_drewN | apply Kd.R_drew)); exact (Kd.R_mono (Kd.R_far (p := ⟨gb223, 1, none⟩) (Kd.R_far (p := ⟨gb223, 0, none⟩) (Kd.R_types HO_3.out BK223.out (by decide)) (fun _ hk => hk.2) (.int .u64 ((rd_T107 l0 x8_1).f0))) (fun _ hk => hk.2) (.int .u64 ((rd_T107 l0 x8_1).f1))) (fun _ h_ => h_.1))) hb); have n1_ := Aside0.mk (blk_below (g := gb223) (o := .cells #[.int .u64 ((rd_T107 l0 x8_1).f0), .int .u64 ((rd_T107 l0 x8_1).f1)] 107 (0, 0)) (by (with_reducible repeat (first | refine blk_drewN ?_ _ | refine blk_drew ?_ | refine blk_alloc ?_ _)); refine blk_put (cs := #[.int .u64 ((rd_T107 l0 x8_1).f0), .int .u64 0]) ?_ 1 _ rfl; (with_reducible repeat (first | refine blk_drewN ?_ _ | refine blk_drew ?_ | refine blk_alloc ?_ _)); refine blk_put (cs := #[.int .u64 0, .int .u64 0]) ?_ 0 _ rfl; (with_reducible repeat (first | refine blk_drewN ?_ _ | refine blk_drew ?_ | refine blk_alloc ?_ _)); exact BK223.out) hb); have n2_ := Aside0.mk (below_step (by repeat (first | (with_reducible first | exact HB.out | apply below_alloc | apply pw_below_drewN | apply below_drew1 | refine below_set ?_ GE223.out) | exact HB.out)) hb); clear HO_3; clear BK223; clear HB; have HO_3 := n0_; have BK223 := n1_; have HB := n2_; clear n0_ n1_ n2_; (try clear hb); (try clear hb2); (try clear hk); (try clear hi)) | ((with_reducible refine gate_builtin (b := .append) (xs := #[.tmp 12, .tmp 15]) rfl ?_); at_builtin; refine Kd.R_append k70 (w0 := w) w.heap.size rfl (.tmp 12) (.tmp 15) 29 70 (.agg #[(.int .u64 0), (.int .u64 0)]) 16 rfl Tryd.underlying29 info70 rfl (by decide) (by omega) u3 x3_1 (⟨t224, t225⟩ : S70) [.int .u64 t224, .int .u64 t225] (fun _ => True) (fun _ => False) rfl rfl ?aP (fun _ hk => hk.elim) ?aF ?aO ?aB ?aS ?aL ?_; (case aP => exact k70_mkM _ _ _ (⟨t224, t225⟩ : S70)); (case aB => exact (by repeat (first | (with_reducible first | exact HB.out | apply below_alloc | apply pw_below_drewN | apply below_drew1 | refine below_set ?_ GE223.out) | exact HB.out))); (case aF => exact (fun _ _ => trivial)); (case aO => exact (by (with_reducible repeat (first | apply Kd.R_alloc | apply Kd.R_drewN | apply Kd.R_drew)); exact HO_3.out)); (case aS => exact (below_size (by repeat (first | (with_reducible first | exact HB.out | apply below_alloc | apply pw_below_drewN | apply below_drew1 | refine below_set ?_ GE223.out) | exact HB.out)))); (case aL => have := LMc6.out; omega); intro v227 w10 ho hb hg hat; rw [← Ny226.out] at ho; have n0_ := Aside0.mk (blk_grown (g := gb223) (o := .cells #[.int .u64 ((rd_T107 l0 x8_1).f0), .int .u64 ((rd_T107 l0 x8_1).f1)] 107 (0, 0)) (by (with_reducible repeat (first | refine blk_drewN ?_ _ | refine blk_drew ?_ | refine blk_alloc ?_ _)); exact BK223.out) hg (Kd.R_ne HO_3.out BK223.out (by decide))); have n1_ := Aside0.mk (hb); have n2_ := Aside0.mk (ho); clear BK223; clear HB; clear HO_3; have BK223 := n0_; have HB := n1_; have HO228 := n2_; clear n0_ n1_ n2_; clear ho hb hg hat))
              go_roundg k1
              case measure => have := HK1.out; omega
              case rel => exact ⟨(y226), (wrap64 (x8_1 + 1)), (by first | rfl | (simp; done) | (simp [*]; done)), H', ⟨by have := HK1.out; omega⟩, ⟨by (with_reducible repeat (first | apply Kd.R_alloc | apply Kd.R_drewN | apply Kd.R_drew)); exact HO228.out⟩, ⟨by repeat (first | (with_reducible first | exact HB.out | apply below_alloc | apply pw_below_drewN | apply below_drew1 | refine below_set ?_ GE223.out) | exact HB.out)⟩⟩
            · rw [if_neg c6] at H
              exact absurd H (by simp)
          · rw [if_neg c4] at H
            exact absurd H (by simp)
        · rw [if_neg c3] at H
          exact absurd H (by simp)
      · rw [if_neg c2] at H
        have c2b0 : decide (x8_1 < (l0.length : Int)) = false := decide_eq_false c2
        clear c2
        obtain rfl := Option.some.inj H
        go_wp2
        go_ret
        exact ⟨_, by first | rfl | (simp [errW_none, errW_some] <;> rfl) | (simp [*, errW_none, errW_some] <;> rfl), by (with_reducible repeat (first | apply Kd.R_alloc | apply Kd.R_drewN | apply Kd.R_drew)); exact HO_3.out, by repeat (first | (with_reducible first | exact HB.out | apply below_alloc | apply pw_below_drewN | apply below_drew1) | exact HB.out)⟩
def proof_Nodes_Ephem.f (l0_0 : List (S107)) (a0_1 : Int) (a0_2 : Int) (a0_3 : Int) (a0_4 : Int) : Option (Int × Int × Int × Int) := some (a0_3, a0_4, a0_1, a0_2)
def proof_Nodes_Ephem.T1 : Bool × List (List Nat × List Nat) := (true, [([], []), ([0], [0]), ([], []), ([2], [2]), ([], []), ([4], [4]), ([1, 0, 1], [1]), ([3, 6, 0, 1, 2, 3, 6], [3]), ([5, 7, 0, 1, 2, 3, 4, 5, 6, 7], [5])])
def proof_Nodes_Ephem.B1 : List Nat := [0, 1, 0, 4, 0, 16, 3, 79, 255]
theorem proof_Nodes_Ephem.tab1 : rtab .any (opsOf Tryd.f127 1) = proof_Nodes_Ephem.T1 := by kernel_rfl
theorem proof_Nodes_Ephem.bits1 : waitsOk proof_Nodes_Ephem.T1.2 proof_Nodes_Ephem.B1 = true := by kernel_rfl
set_option maxHeartbeats 8000000 in
set_option maxRecDepth 100000 in
theorem proof_Nodes_Ephem.calls (A0_0 : Option Addr) (c0_0 : Nat) (l0_0 : List (S107)) (a0_1 : Int) (a0_2 : Int) (a0_3 : Int) (a0_4 : Int) (r1 : Int) (r2 : Int) (r3 : Int) (r4 : Int) (w : World) (hr0_0 : Kd.C k107 w A0_0 l0_0.length l0_0) (hc0_0 : l0_0.length ≤ c0_0) (h : proof_Nodes_Ephem.f l0_0 a0_1 a0_2 a0_3 a0_4 = some (r1, r2, r3, r4)) :
    Calls Tryd.prog 127 #[.agg #[.slice A0_0 l0_0.length c0_0, .int .i64 a0_1, .int .i64 a0_2, .int .u64 a0_3, .int .u64 a0_4]] w fun e w' => e = .returned (.tuple #[.agg #[.int .u64 r1, .int .u64 r2], .int .i64 r3, .int .i64 r4]) ∧ Below w.heap.size w w' := by
  have hu146 := Tryd.underlying146
  have hu107 := Tryd.underlying107
  have HR0_0 := Aside0.mk hr0_0
  have HC0_0 := Aside0.mk hc0_0
  clear hr0_0 hc0_0
  have HB := Aside0.mk (Below.refl w.heap.size w)
  have H : (some (a0_3, a0_4, a0_1, a0_2)) = some (r1, r2, r3, r4) := h
  clear h
  simp only [Option.some.injEq, Prod.mk.injEq] at H
  obtain ⟨rfl, rfl, rfl, rfl⟩ := H
  go_enter Tryd.func127, Tryd.ntmps127
  try go_wp2_with (first | ((with_reducible refine gate_dst (N := 1) rfl ?_); refine box_event ?hg (N := 1) ?hd (cs := #[.slice A0_0 l0_0.length c0_0, .int .i64 a0_1, .int .i64 a0_2, .int .u64 a0_3, .int .u64 a0_4]) (t := 146) ?hr ?_; (case hd => rfl); (case hg => rfl); (case hr => first | (go_simp; done) | (go_simp; rfl)); intro gb229 hg w2 hbox hb; have n0_ := Aside0.mk (below_step (by repeat (first | (with_reducible first | exact HB.out | apply below_alloc | apply pw_below_drewN | apply below_drew1) | exact HB.out)) hb); have n1_ := Aside0.mk (hbox); have n2_ := Aside0.mk ((by rw [hg]; exact (below_size (by repeat (first | (with_reducible first | exact HB.out | apply below_alloc | apply pw_below_drewN | apply below_drew1) | exact HB.out))) : w.heap.size ≤ gb229)); have n3_ := Aside0.mk ((by rw [hg]; exact (below_size (by repeat (first | (with_reducible first | exact HB.out | apply below_alloc | apply pw_below_drewN | apply below_drew1) | exact HB.out))) : w.heap.size ≤ gb229)); clear HB; have HB := n0_; have BK229 := n1_; have GW229 := n2_; have GE229 := n3_; clear n0_ n1_ n2_ n3_; clear hb hbox hg) | ((with_reducible refine gate_dst (N := 2) rfl ?_); refine box_event ?hg (N := 2) ?hd (cs := #[.int .u64 0, .int .u64 0]) (t := 107) ?hr ?_; (case hd => rfl); (case hg => rfl); (case hr => first | (go_simp; done) | (go_simp; rfl)); intro gb230 hg w3 hbox hb; have n0_ := Aside0.mk (blk_below (g := gb229) (o := .cells #[.slice A0_0 l0_0.length c0_0, .int .i64 a0_1, .int .i64 a0_2, .int .u64 a0_3, .int .u64 a0_4] 146 (0, 0)) (by (with_reducible repeat (first | refine blk_drewN ?_ _ | refine blk_drew ?_ | refine blk_alloc ?_ _)); exact BK229.out) hb); have n1_ := Aside0.mk (below_step (by repeat (first | (with_reducible first | exact HB.out | apply below_alloc | apply pw_below_drewN | apply below_drew1 | refine below_set ?_ GE229.out) | exact HB.out)) hb); have n2_ := Aside0.mk (hbox); have n3_ := Aside0.mk ((by rw [hg]; exact (below_size (by repeat (first | (with_reducible first | exact HB.out | apply below_alloc | apply pw_below_drewN | apply below_drew1 | refine below_set ?_ GE229.out) | exact HB.out))) : w.heap.size ≤ gb230)); have n4_ := Aside0.mk ((by rw [hg]; exact (below_size (by repeat (first | (with_reducible first | exact HB.out | apply below_alloc | apply pw_below_drewN | apply below_drew1 | refine below_set ?_ GE229.out) | exact HB.out))) : w.heap.size ≤ gb230)); have n5_ := Aside0.mk ((by rw [hg]; exact Nat.ne_of_lt (blk_lt (g := gb229) (o := .cells #[.slice A0_0 l0_0.length c0_0, .int .i64 a0_1, .int .i64 a0_2, .int .u64 a0_3, .int .u64 a0_4] 146 (0, 0)) (by (with_reducible repeat (first | refine blk_drewN ?_ _ | refine blk_drew ?_ | refine blk_alloc ?_ _)); exact BK229.out)) : gb229 ≠ gb230)); have n6_ := Aside0.mk ((by rw [hg]; exact Nat.ne_of_gt (blk_lt (g := gb229) (o := .cells #[.slice A0_0 l0_0.length c0_0, .int .i64 a0_1, .int .i64 a0_2, .int .u64 a0_3, .int .u64 a0_4] 146 (0, 0)) (by (with_reducible repeat (first | refine blk_drewN ?_ _ | refine blk_drew ?_ | refine blk_alloc ?_ _)); exact BK229.out)) : gb230 ≠ gb229)); clear BK229; clear HB; have BK229 := n0_; have HB := n1_; have BK230 := n2_; have GW230 := n3_; have GE230 := n4_; have NB229_230 := n5_; have NB230_229 := n6_; clear n0_ n1_ n2_ n3_ n4_ n5_ n6_; clear hb hbox hg))
  have n0_ := Aside0.mk (blk_drew BK229.out)
  have n1_ := Aside0.mk (blk_drew BK230.out)
  have n2_ := Aside0.mk (below_drew1 HB.out)
  clear BK229
  clear BK230
  clear HB
  have BK229 := n0_
  have BK230 := n1_
  have HB := n2_
  clear n0_ n1_ n2_
  refine start_ (n := 9) (S := fun w' => w'.cell? ⟨gb229, 0, none⟩ = some (.slice A0_0 l0_0.length c0_0) ∧ w'.cell? ⟨gb229, 1, none⟩ = some (.int .i64 a0_1) ∧ w'.cell? ⟨gb229, 2, none⟩ = some (.int .i64 a0_2) ∧ w'.cell? ⟨gb229, 3, none⟩ = some (.int .u64 a0_3) ∧ w'.cell? ⟨gb229, 4, none⟩ = some (.int .u64 a0_4)) (ds := []) #[false, false, false, false, false, false, false, false, false] (by kernel_rfl) rfl rfl ⟨(blk_cell BK229.out 0).trans rfl, (blk_cell BK229.out 1).trans rfl, (blk_cell BK229.out 2).trans rfl, (blk_cell BK229.out 3).trans rfl, (blk_cell BK229.out 4).trans rfl⟩ (fun hHeld => ?_); refine with_tabW proof_Nodes_Ephem.tab1 proof_Nodes_Ephem.bits1 (fun HT_ HW_ => ?_)
  generalize w3.drew = w4 at BK229 BK230 HB hHeld ⊢
  refine pure_ (i := 0) (N := some 5) (v := ?_) (a' := ?_) #[true, false, false, false, false, false, false, false, false] rfl rfl (any_of HT_.out (by kernel_rfl)) (fun _ _ _ h => h) (Or.inl ⟨by rfl, ?_⟩) ?_ ?_
  rotate_left
  · intro w'
    go_simp
    with_reducible rfl
  rotate_left
  · simp only [Act.put, List.setIfInBounds_toArray, List.set_cons_zero, List.set_cons_succ, i64_w, i32_w]
    rfl
  refine pure_ (i := 2) (N := some 7) (v := ?_) (a' := ?_) #[true, false, true, false, false, false, false, false, false] rfl rfl (any_of HT_.out (by kernel_rfl)) (fun _ _ _ h => h) (Or.inl ⟨by rfl, ?_⟩) ?_ ?_
  rotate_left
  · intro w'
    go_simp
    with_reducible rfl
  rotate_left
  · simp only [Act.put, List.setIfInBounds_toArray, List.set_cons_zero, List.set_cons_succ, i64_w, i32_w]
    rfl
  refine pure_ (i := 4) (N := some 9) (v := ?_) (a' := ?_) #[true, false, true, false, true, false, false, false, false] rfl rfl (any_of HT_.out (by kernel_rfl)) (fun _ _ _ h => h) (Or.inl ⟨by rfl, ?_⟩) ?_ ?_
  rotate_left
  · intro w'
    go_simp
    with_reducible rfl
  rotate_left
  · simp only [Act.put, List.setIfInBounds_toArray, List.set_cons_zero, List.set_cons_succ, i64_w, i32_w]
    rfl
  refine take_ (i := 1) (N := some 6) (v := ?_) (a' := ?_) #[true, true, true, false, true, false, false, false, false] rfl rfl (take_ofW HT_.out HW_.out (by kernel_rfl)) (fun _ _ _ h => h) (Or.inl ⟨by rfl, ?_⟩) hHeld ?_ ?_
  rotate_left
  · rintro w' ⟨s0, s1, s2, s3, s4⟩
    go_simp
    with_reducible rfl
  rotate_left
  · simp only [Act.put, List.setIfInBounds_toArray, List.set_cons_zero, List.set_cons_succ, i64_w, i32_w]
    rfl
  refine take_ (i := 3) (N := some 8) (v := ?_) (a' := ?_) #[true, true, true, true, true, false, false, false, false] rfl rfl (take_ofW HT_.out HW_.out (by kernel_rfl)) (fun _ _ _ h => h) (Or.inl ⟨by rfl, ?_⟩) hHeld ?_ ?_
  rotate_left
  · rintro w' ⟨s0, s1, s2, s3, s4⟩
    go_simp
    with_reducible rfl
  rotate_left
  · simp only [Act.put, List.setIfInBounds_toArray, List.set_cons_zero, List.set_cons_succ, i64_w, i32_w]
    rfl
  refine take_ (i := 5) (N := some 10) (v := ?_) (a' := ?_) #[true, true, true, true, true, true, false, false, false] rfl rfl (take_ofW HT_.out HW_.out (by kernel_rfl)) (fun _ _ _ h => h) (Or.inl ⟨by rfl, ?_⟩) hHeld ?_ ?_
  rotate_left
  · rintro w' ⟨s0, s1, s2, s3, s4⟩
    go_simp
    with_reducible rfl
  rotate_left
  · simp only [Act.put, List.setIfInBounds_toArray, List.set_cons_zero, List.set_cons_succ, i64_w, i32_w]
    rfl
  refine one_ (i := 6) (N := none) #[true, true, true, true, true, true, true, false, false] rfl rfl (one_of HT_.out (by kernel_rfl)) (by decide) (fun K hK => ?_)
  have hs5 : w4.cell? ⟨gb230, 0, none⟩ = some (.int .u64 0) := (blk_cell BK230.out 0).trans rfl
  have hfs5 := blk_frozen BK230.out 0
  have hns5_0 := NB229_230.out
  have hms5_0 := NB230_229.out
  have hs6 : w4.cell? ⟨gb230, 1, none⟩ = some (.int .u64 0) := (blk_cell BK230.out 1).trans rfl
  have hfs6 := blk_frozen BK230.out 1
  have hns6_0 := NB229_230.out
  have hms6_0 := NB230_229.out
  refine skip_ (w1 := ?_) (by rfl) rfl ?_ ?_
  rotate_left
  · go_simp
    rfl
  refine hK.out _ _ ⟨((cell_far (p := ⟨gb230, _, none⟩) NB229_230.out _).trans (((cell_far (p := ⟨gb230, _, none⟩) NB229_230.out _).trans (hHeld.1)))), ((cell_far (p := ⟨gb230, _, none⟩) NB229_230.out _).trans (((cell_far (p := ⟨gb230, _, none⟩) NB229_230.out _).trans (hHeld.2.1)))), ((cell_far (p := ⟨gb230, _, none⟩) NB229_230.out _).trans (((cell_far (p := ⟨gb230, _, none⟩) NB229_230.out _).trans (hHeld.2.2.1)))), ((cell_far (p := ⟨gb230, _, none⟩) NB229_230.out _).trans (((cell_far (p := ⟨gb230, _, none⟩) NB229_230.out _).trans (hHeld.2.2.2.1)))), ((cell_far (p := ⟨gb230, _, none⟩) NB229_230.out _).trans (((cell_far (p := ⟨gb230, _, none⟩) NB229_230.out _).trans (hHeld.2.2.2.2))))⟩ (fun hHeld => ?_)
  clear hK K
  refine pure_ (i := 7) (N := some 3) (v := ?_) (a' := ?_) #[true, true, true, true, true, true, true, true, false] rfl rfl (any_of HT_.out (by kernel_rfl)) (fun _ _ _ h => h) (Or.inl ⟨by rfl, ?_⟩) ?_ ?_
  rotate_left
  · intro w'
    go_simp
    with_reducible rfl
  rotate_left
  · simp only [Act.put, List.setIfInBounds_toArray, List.set_cons_zero, List.set_cons_succ, i64_w, i32_w]
    rfl
  refine pure_ (i := 8) (N := some 4) (v := ?_) (a' := ?_) #[true, true, true, true, true, true, true, true, true] rfl rfl (any_of HT_.out (by kernel_rfl)) (fun _ _ _ h => h) (Or.inl ⟨by rfl, ?_⟩) ?_ ?_
  rotate_left
  · intro w'
    go_simp
    with_reducible rfl
  rotate_left
  · simp only [Act.put, List.setIfInBounds_toArray, List.set_cons_zero, List.set_cons_succ, i64_w, i32_w]
    rfl
  refine done_ (done_of HT_.out (by kernel_rfl)) ?_
  try go_wp2
  refine bodyPost_ret (results_ctt rfl _ _ gb230 107 #[.int .u64 a0_3, .int .u64 a0_4] (0, 0) _ rfl (by (with_reducible repeat (first | refine blk_drewN ?_ _ | refine blk_drew ?_ | refine blk_alloc ?_ _)); refine blk_put (cs := #[.int .u64 a0_3, .int .u64 0]) ?_ 1 _ rfl; (with_reducible repeat (first | refine blk_drewN ?_ _ | refine blk_drew ?_ | refine blk_alloc ?_ _)); refine blk_put (cs := #[.int .u64 0, .int .u64 0]) ?_ 0 _ rfl; (with_reducible repeat (first | refine blk_drewN ?_ _ | refine blk_drew ?_ | refine blk_alloc ?_ _)); exact BK230.out) Tryd.underlying107 rfl (by kernel_rfl)) rfl ?_
  exact ⟨by first | rfl | (simp [errW_none, errW_some] <;> rfl) | (simp [*, errW_none, errW_some] <;> rfl), by repeat (first | (with_reducible first | exact HB.out | apply below_alloc | apply pw_below_drewN | apply below_drew1 | refine below_set ?_ GE229.out | refine below_set ?_ GE230.out) | exact HB.out)⟩
def impl_fromProof.f (k : Nat) (l0_0 : List (S107)) (a0_1 : Int) (a0_2 : Int) (a0_3 : Int) (a0_4 : Int) : Option ((List (S70)) × Int × Int × Int × Int) := (proof_Nodes_Ephem.f l0_0 a0_1 a0_2 a0_3 a0_4).bind fun bt233 => ((impl_fromNodes.f k l0_0).bind fun t238 => ((impl_fromNode.f bt233.1 bt233.2.1).bind fun bt241 => (some (t238, bt241.1, bt241.2, bt233.2.2.1, bt233.2.2.2))))
theorem impl_fromProof.mono : ∀ a0 a1 a2 a3 a4 k, LeO (impl_fromProof.f k a0 a1 a2 a3 a4) (impl_fromProof.f (k + 1) a0 a1 a2 a3 a4) := by
  intro a0 a1 a2 a3 a4 k
  unfold impl_fromProof.f
  repeat' first
      | (with_reducible exact impl_fromNodes.mono _ _)
      | (with_reducible exact LeO.refl _)
      | (with_reducible exact LeO.none _)
      | (with_reducible refine LeO.ite ?_ ?_)
      | (with_reducible refine LeO.bind ?_ (fun _ => ?_))
      | exact impl_fromNodes.mono _ _
      | exact LeO.none _
      | refine LeO.ite ?_ ?_
      | refine LeO.bind ?_ (fun _ => ?_)
def impl_fromProof.T2 : Bool × List (List Nat × List Nat) := (true, [([], []), ([0], [0]), ([1], [1]), ([], []), ([3, 2], [3]), ([], []), ([], []), ([2, 4, 5, 6], [2, 4, 5, 6]), ([7, 4, 0, 1, 2, 3, 4, 5, 6, 7], [7])])
def impl_fromProof.B2 : List Nat := [0, 1, 3, 0, 15, 0, 0, 127, 255]
theorem impl_fromProof.tab2 : rtab .any (opsOf Tryd.f93 2) = impl_fromProof.T2 := by kernel_rfl
theorem impl_fromProof.bits2 : waitsOk impl_fromProof.T2.2 impl_fromProof.B2 = true := by kernel_rfl
set_option maxHeartbeats 8000000 in
set_option maxRecDepth 100000 in
theorem impl_fromProof.calls (k : Nat) (A0_0 : Option Addr) (c0_0 : Nat) (l0_0 : List (S107)) (a0_1 : Int) (a0_2 : Int) (a0_3 : Int) (a0_4 : Int) (r1 : List (S70)) (r2 : Int) (r3 : Int) (r4 : Int) (r5 : Int) (w : World) (hr0_0 : Kd.C k107 w A0_0 l0_0.length l0_0) (hc0_0 : l0_0.length ≤ c0_0) (h : impl_fromProof.f k l0_0 a0_1 a0_2 a0_3 a0_4 = some (r1, r2, r3, r4, r5)) :
    Calls Tryd.prog 93 #[.agg #[.slice A0_0 l0_0.length c0_0, .int .i64 a0_1, .int .i64 a0_2, .int .u64 a0_3, .int .u64 a0_4]] w fun e w' => ∃ v0_ : Value, e = .returned (.agg #[v0_, .int .u64 r2, .int .u64 r3, .int .i64 r4, .int .i64 r5]) ∧ Kd.R k70 70 w' w.heap.size (fun _ => True) v0_ r1 ∧ Below w.heap.size w w' := by
  have hu146 := Tryd.underlying146
  have hu72 := Tryd.underlying72
  have hu107 := Tryd.underlying107
  have HR0_0 := Aside0.mk hr0_0
  have HC0_0 := Aside0.mk hc0_0
  clear hr0_0 hc0_0
  have HB := Aside0.mk (Below.refl w.heap.size w)
  have H : ((proof_Nodes_Ephem.f l0_0 a0_1 a0_2 a0_3 a0_4).bind fun bt233 => ((impl_fromNodes.f k l0_0).bind fun t238 => ((impl_fromNode.f bt233.1 bt233.2.1).bind fun bt241 => (some (t238, bt241.1, bt241.2, bt233.2.2.1, bt233.2.2.2))))) = some (r1, r2, r3, r4, r5) := h
  clear h
  replace H := Option.bind_eq_some_iff.mp H
  obtain ⟨⟨t233, t234, t235, t236⟩, A20, H⟩ := H
  replace H : ((impl_fromNodes.f k l0_0).bind fun t238 => ((impl_fromNode.f t233 t234).bind fun bt241 => (some (t238, bt241.1, bt241.2, t235, t236)))) = some (r1, r2, r3, r4, r5) := H
  have A2 := Aside0.mk A20
  clear A20
  replace H := Option.bind_eq_some_iff.mp H
  obtain ⟨t238, A30, H⟩ := H
  replace H : ((impl_fromNode.f t233 t234).bind fun bt241 => (some (t238, bt241.1, bt241.2, t235, t236))) = some (r1, r2, r3, r4, r5) := H
  have A3 := Aside0.mk A30
  clear A30
  replace H := Option.bind_eq_some_iff.mp H
  obtain ⟨⟨t241, t242⟩, A40, H⟩ := H
  replace H : (some (t238, t241, t242, t235, t236)) = some (r1, r2, r3, r4, r5) := H
  have A4 := Aside0.mk A40
  clear A40
  simp only [Option.some.injEq, Prod.mk.injEq] at H
  obtain ⟨rfl, rfl, rfl, rfl, rfl⟩ := H
  go_enter Tryd.func93, Tryd.ntmps93
  try go_wp2_with (first | ((with_reducible refine gate_dst (N := 1) rfl ?_); refine box_event ?hg (N := 1) ?hd (cs := #[.slice A0_0 l0_0.length c0_0, .int .i64 a0_1, .int .i64 a0_2, .int .u64 a0_3, .int .u64 a0_4]) (t := 146) ?hr ?_; (case hd => rfl); (case hg => rfl); (case hr => first | (go_simp; done) | (go_simp; rfl)); intro gb231 hg w5 hbox hb; have n0_ := Aside0.mk (below_step (by repeat (first | (with_reducible first | exact HB.out | apply below_alloc | apply pw_below_drewN | apply below_drew1) | exact HB.out)) hb); have n1_ := Aside0.mk (hbox); have n2_ := Aside0.mk ((by rw [hg]; exact (below_size (by repeat (first | (with_reducible first | exact HB.out | apply below_alloc | apply pw_below_drewN | apply below_drew1) | exact HB.out))) : w.heap.size ≤ gb231)); have n3_ := Aside0.mk ((by rw [hg]; exact (below_size (by repeat (first | (with_reducible first | exact HB.out | apply below_alloc | apply pw_below_drewN | apply below_drew1) | exact HB.out))) : w.heap.size ≤ gb231)); clear HB; have HB := n0_; have BK231 := n1_; have GW231 := n2_; have GE231 := n3_; clear n0_ n1_ n2_ n3_; clear hb hbox hg) | ((with_reducible refine gate_dst (N := 2) rfl ?_); refine box_event ?hg (N := 2) ?hd (cs := #[.slice none 0 0, .int .u64 0, .int .u64 0, .int .i64 0, .int .i64 0]) (t := 72) ?hr ?_; (case hd => rfl); (case hg => rfl); (case hr => first | (go_simp; done) | (go_simp; rfl)); intro gb232 hg w6 hbox hb; have n0_ := Aside0.mk (blk_below (g := gb231) (o := .cells #[.slice A0_0 l0_0.length c0_0, .int .i64 a0_1, .int .i64 a0_2, .int .u64 a0_3, .int .u64 a0_4] 146 (0, 0)) (by (with_reducible repeat (first | refine blk_drewN ?_ _ | refine blk_drew ?_ | refine blk_alloc ?_ _)); exact BK231.out) hb); have n1_ := Aside0.mk (below_step (by repeat (first | (with_reducible first | exact HB.out | apply below_alloc | apply pw_below_drewN | apply below_drew1 | refine below_set ?_ GE231.out) | exact HB.out)) hb); have n2_ := Aside0.mk (hbox); have n3_ := Aside0.mk ((by rw [hg]; exact (below_size (by repeat (first | (with_reducible first | exact HB.out | apply below_alloc | apply pw_below_drewN | apply below_drew1 | refine below_set ?_ GE231.out) | exact HB.out))) : w.heap.size ≤ gb232)); have n4_ := Aside0.mk ((by rw [hg]; exact (below_size (by repeat (first | (with_reducible first | exact HB.out | apply below_alloc | apply pw_below_drewN | apply below_drew1 | refine below_set ?_ GE231.out) | exact HB.out))) : w.heap.size ≤ gb232)); have n5_ := Aside0.mk ((by rw [hg]; exact Nat.ne_of_lt (blk_lt (g := gb231) (o := .cells #[.slice A0_0 l0_0.length c0_0, .int .i64 a0_1, .int .i64 a0_2, .int .u64 a0_3, .int .u64 a0_4] 146 (0, 0)) (by (with_reducible repeat (first | refine blk_drewN ?_ _ | refine blk_drew ?_ | refine blk_alloc ?_ _)); exact BK231.out)) : gb231 ≠ gb232)); have n6_ := Aside0.mk ((by rw [hg]; exact Nat.ne_of_gt (blk_lt (g := gb231) (o := .cells #[.slice A0_0 l0_0.length c0_0, .int .i64 a0_1, .int .i64 a0_2, .int .u64 a0_3, .int .u64 a0_4] 146 (0, 0)) (by (with_reducible repeat (first | refine blk_drewN ?_ _ | refine blk_drew ?_ | refine blk_alloc ?_ _)); exact BK231.out)) : gb232 ≠ gb231)); clear BK231; clear HB; have BK231 := n0_; have HB := n1_; have BK232 := n2_; have GW232 := n3_; have GE232 := n4_; have NB231_232 := n5_; have NB232_231 := n6_; clear n0_ n1_ n2_ n3_ n4_ n5_ n6_; clear hb hbox hg; have hnb7 := NB231_232.out; have hnc7 := NB232_231.out; have hcz8_0 : w6.cell? ⟨gb231, 0, none⟩ = some (.slice A0_0 l0_0.length c0_0) := (blk_cell BK231.out 0).trans rfl; have hcz8_1 : w6.cell? ⟨gb231, 1, none⟩ = some (.int .i64 a0_1) := (blk_cell BK231.out 1).trans rfl; have hcz8_2 : w6.cell? ⟨gb231, 2, none⟩ = some (.int .i64 a0_2) := (blk_cell BK231.out 2).trans rfl; have hcz8_3 : w6.cell? ⟨gb231, 3, none⟩ = some (.int .u64 a0_3) := (blk_cell BK231.out 3).trans rfl; have hcz8_4 : w6.cell? ⟨gb231, 4, none⟩ = some (.int .u64 a0_4) := (blk_cell BK231.out 4).trans rfl; have hfz8_0 := blk_frozen BK231.out 0; have hfz8_1 := blk_frozen BK231.out 1; have hfz8_2 := blk_frozen BK231.out 2; have hfz8_3 := blk_frozen BK231.out 3; have hfz8_4 := blk_frozen BK231.out 4) | ((with_reducible refine gate_callee (f := 127) rfl ?_); refine goesL_ (some 8) rfl rfl Tryd.func127 (by kernel_rfl) rfl #[.agg #[.slice A0_0 l0_0.length c0_0, .int .i64 a0_1, .int .i64 a0_2, .int .u64 a0_3, .int .u64 a0_4]] rfl (by (try simp only [List.map_toArray, List.map_cons, List.map_nil]); first | done | rfl | (simp only [List.length_drop, List.length_take]; rfl)) ?_; (with_reducible refine (proof_Nodes_Ephem.calls _ _ l0_0 a0_1 a0_2 a0_3 a0_4 t233 t234 t235 t236 _ ?side1 ?side2 A2.out).mono ?_); (case side1 => repeat (first | exact (Kd.C_below HR0_0.out HB.out) | (with_reducible refine Kd.C_alloc ?_ _) | (with_reducible refine Kd.C_drewN ?_ _) | (with_reducible refine Kd.C_drew ?_))); (case side2 => exact HC0_0.out); rintro e w9 ⟨rfl, hb⟩; refine ⟨_, rfl, ?_⟩; have n0_ := Aside0.mk (blk_below (g := gb231) (o := .cells #[.slice A0_0 l0_0.length c0_0, .int .i64 a0_1, .int .i64 a0_2, .int .u64 a0_3, .int .u64 a0_4] 146 (0, 0)) (by (with_reducible repeat (first | refine blk_drewN ?_ _ | refine blk_drew ?_ | refine blk_alloc ?_ _)); exact BK231.out) hb); have n1_ := Aside0.mk (blk_below (g := gb232) (o := .cells #[.slice none 0 0, .int .u64 0, .int .u64 0, .int .i64 0, .int .i64 0] 72 (0, 0)) (by (with_reducible repeat (first | refine blk_drewN ?_ _ | refine blk_drew ?_ | refine blk_alloc ?_ _)); exact BK232.out) hb); have n2_ := Aside0.mk (below_step (by repeat (first | (with_reducible first | exact HB.out | apply below_alloc | apply pw_below_drewN | apply below_drew1 | refine below_set ?_ GE231.out | refine below_set ?_ GE232.out) | exact HB.out)) hb); clear BK231; clear BK232; clear HB; have BK231 := n0_; have BK232 := n1_; have HB := n2_; clear n0_ n1_ n2_; (try clear hb); (try clear hb2); (try clear hk); (try clear hi)) | ((with_reducible refine gate_dst (N := 3) rfl ?_); refine box_event ?hg (N := 3) ?hd (cs := #[.int .u64 0, .int .u64 0]) (t := 107) ?hr ?_; (case hd => rfl); (case hg => rfl); (case hr => first | (go_simp; done) | (go_simp; rfl)); intro gb237 hg w10 hbox hb; have n0_ := Aside0.mk (blk_below (g := gb231) (o := .cells #[.slice A0_0 l0_0.length c0_0, .int .i64 a0_1, .int .i64 a0_2, .int .u64 a0_3, .int .u64 a0_4] 146 (0, 0)) (by (with_reducible repeat (first | refine blk_drewN ?_ _ | refine blk_drew ?_ | refine blk_alloc ?_ _)); exact BK231.out) hb); have n1_ := Aside0.mk (blk_below (g := gb232) (o := .cells #[.slice none 0 0, .int .u64 0, .int .u64 0, .int .i64 0, .int .i64 0] 72 (0, 0)) (by (with_reducible repeat (first | refine blk_drewN ?_ _ | refine blk_drew ?_ | refine blk_alloc ?_ _)); exact BK232.out) hb); have n2_ := Aside0.mk (below_step (by repeat (first | (with_reducible first | exact HB.out | apply below_alloc | apply pw_below_drewN | apply below_drew1 | refine below_set ?_ GE231.out | refine below_set ?_ GE232.out) | exact HB.out)) hb); have n3_ := Aside0.mk (hbox); have n4_ := Aside0.mk ((by rw [hg]; exact (below_size (by repeat (first | (with_reducible first | exact HB.out | apply below_alloc | apply pw_below_drewN | apply below_drew1 | refine below_set ?_ GE231.out | refine below_set ?_ GE232.out) | exact HB.out))) : w.heap.size ≤ gb237)); have n5_ := Aside0.mk ((by rw [hg]; exact (below_size (by repeat (first | (with_reducible first | exact HB.out | apply below_alloc | apply pw_below_drewN | apply below_drew1 | refine below_set ?_ GE231.out | refine below_set ?_ GE232.out) | exact HB.out))) : w.heap.size ≤ gb237)); have n6_ := Aside0.mk ((by rw [hg]; exact Nat.ne_of_lt (blk_lt (g := gb231) (o := .cells #[.slice A0_0 l0_0.length c0_0, .int .i64 a0_1, .int .i64 a0_2, .int .u64 a0_3, .int .u64 a0_4] 146 (0, 0)) (by (with_reducible repeat (first | refine blk_drewN ?_ _ | refine blk_drew ?_ | refine blk_alloc ?_ _)); exact BK231.out)) : gb231 ≠ gb237)); have n7_ := Aside0.mk ((by rw [hg]; exact Nat.ne_of_gt (blk_lt (g := gb231) (o := .cells #[.slice A0_0 l0_0.length c0_0, .int .i64 a0_1, .int .i64 a0_2, .int .u64 a0_3, .int .u64 a0_4] 146 (0, 0)) (by (with_reducible repeat (first | refine blk_drewN ?_ _ | refine blk_drew ?_ | refine blk_alloc ?_ _)); exact BK231.out)) : gb237 ≠ gb231)); have n8_ := Aside0.mk ((by rw [hg]; exact Nat.ne_of_lt (blk_lt (g := gb232) (o := .cells #[.slice none 0 0, .int .u64 0, .int .u64 0, .int .i64 0, .int .i64 0] 72 (0, 0)) (by (with_reducible repeat (first | refine blk_drewN ?_ _ | refine blk_drew ?_ | refine blk_alloc ?_ _)); exact BK232.out)) : gb232 ≠ gb237)); have n9_ := Aside0.mk ((by rw [hg]; exact Nat.ne_of_gt (blk_lt (g := gb232) (o := .cells #[.slice none 0 0, .int .u64 0, .int .u64 0, .int .i64 0, .int .i64 0] 72 (0, 0)) (by (with_reducible repeat (first | refine blk_drewN ?_ _ | refine blk_drew ?_ | refine blk_alloc ?_ _)); exact BK232.out)) : gb237 ≠ gb232)); clear BK231; clear BK232; clear HB; have BK231 := n0_; have BK232 := n1_; have HB := n2_; have BK237 := n3_; have GW237 := n4_; have GE237 := n5_; have NB231_237 := n6_; have NB237_231 := n7_; have NB232_237 := n8_; have NB237_232 := n9_; clear n0_ n1_ n2_ n3_ n4_ n5_ n6_ n7_ n8_ n9_; clear hb hbox hg; have hnb11 := NB237_231.out; have hnc11 := NB231_237.out; have hnb12 := NB237_232.out; have hnc12 := NB232_237.out; have hcz13_0 : w10.cell? ⟨gb237, 0, none⟩ = some (.int .u64 0) := (blk_cell BK237.out 0).trans rfl; have hcz13_1 : w10.cell? ⟨gb237, 1, none⟩ = some (.int .u64 0) := (blk_cell BK237.out 1).trans rfl; have hfz13_0 := blk_frozen BK237.out 0; have hfz13_1 := blk_frozen BK237.out 1))
  have n0_ : Aside0 (((w10.setCell ⟨gb237, 0, none⟩ (.int .u64 t233)).setCell ⟨gb237, 1, none⟩ (.int .u64 t234)).heap[gb231]? = some (.cells #[.slice A0_0 l0_0.length c0_0, .int .i64 a0_1, .int .i64 a0_2, .int .u64 a0_3, .int .u64 a0_4] 146 (0, 0))) := ⟨by (with_reducible repeat (first | refine blk_drewN ?_ _ | refine blk_drew ?_ | refine blk_alloc ?_ _)); refine blk_far ?_ NB231_237.out _; (with_reducible repeat (first | refine blk_drewN ?_ _ | refine blk_drew ?_ | refine blk_alloc ?_ _)); refine blk_far ?_ NB231_237.out _; (with_reducible repeat (first | refine blk_drewN ?_ _ | refine blk_drew ?_ | refine blk_alloc ?_ _)); exact BK231.out⟩
  have n1_ : Aside0 (((w10.setCell ⟨gb237, 0, none⟩ (.int .u64 t233)).setCell ⟨gb237, 1, none⟩ (.int .u64 t234)).heap[gb232]? = some (.cells #[.slice none 0 0, .int .u64 0, .int .u64 0, .int .i64 0, .int .i64 0] 72 (0, 0))) := ⟨by (with_reducible repeat (first | refine blk_drewN ?_ _ | refine blk_drew ?_ | refine blk_alloc ?_ _)); refine blk_far ?_ NB232_237.out _; (with_reducible repeat (first | refine blk_drewN ?_ _ | refine blk_drew ?_ | refine blk_alloc ?_ _)); refine blk_far ?_ NB232_237.out _; (with_reducible repeat (first | refine blk_drewN ?_ _ | refine blk_drew ?_ | refine blk_alloc ?_ _)); exact BK232.out⟩
  have n2_ : Aside0 (((w10.setCell ⟨gb237, 0, none⟩ (.int .u64 t233)).setCell ⟨gb237, 1, none⟩ (.int .u64 t234)).heap[gb237]? = some (.cells #[.int .u64 t233, .int .u64 t234] 107 (0, 0))) := ⟨by (with_reducible repeat (first | refine blk_drewN ?_ _ | refine blk_drew ?_ | refine blk_alloc ?_ _)); refine blk_put (cs := #[.int .u64 t233, .int .u64 0]) ?_ 1 _ rfl; (with_reducible repeat (first | refine blk_drewN ?_ _ | refine blk_drew ?_ | refine blk_alloc ?_ _)); refine blk_put (cs := #[.int .u64 0, .int .u64 0]) ?_ 0 _ rfl; (with_reducible repeat (first | refine blk_drewN ?_ _ | refine blk_drew ?_ | refine blk_alloc ?_ _)); exact BK237.out⟩
  have n3_ : Aside0 (Below w.heap.size w ((w10.setCell ⟨gb237, 0, none⟩ (.int .u64 t233)).setCell ⟨gb237, 1, none⟩ (.int .u64 t234))) := ⟨by repeat (first | (with_reducible first | exact HB.out | apply below_alloc | apply pw_below_drewN | apply below_drew1 | refine below_set ?_ GE231.out | refine below_set ?_ GE232.out | refine below_set ?_ GE237.out) | exact HB.out)⟩
  (try clear BK231)
  (try clear BK232)
  (try clear BK237)
  (try clear HB)
  generalize ((w10.setCell ⟨gb237, 0, none⟩ (.int .u64 t233)).setCell ⟨gb237, 1, none⟩ (.int .u64 t234)) = w14 at n0_ n1_ n2_ n3_ ⊢
  have BK231 := n0_
  have BK232 := n1_
  have BK237 := n2_
  have HB := n3_
  clear n0_ n1_ n2_ n3_
  have n0_ := Aside0.mk (blk_drew BK231.out)
  have n1_ := Aside0.mk (blk_drew BK232.out)
  have n2_ := Aside0.mk (blk_drew BK237.out)
  have n3_ := Aside0.mk (below_drew1 HB.out)
  clear BK231
  clear BK232
  clear BK237
  clear HB
  have BK231 := n0_
  have BK232 := n1_
  have BK237 := n2_
  have HB := n3_
  clear n0_ n1_ n2_ n3_
  refine start_ (n := 9) (S := fun w' => w'.cell? ⟨gb231, 0, none⟩ = some (.slice A0_0 l0_0.length c0_0) ∧ w'.cell? ⟨gb231, 1, none⟩ = some (.int .i64 a0_1) ∧ w'.cell? ⟨gb231, 2, none⟩ = some (.int .i64 a0_2) ∧ w'.cell? ⟨gb231, 3, none⟩ = some (.int .u64 a0_3) ∧ w'.cell? ⟨gb231, 4, none⟩ = some (.int .u64 a0_4) ∧ w'.cell? ⟨gb237, 0, none⟩ = some (.int .u64 t233) ∧ w'.cell? ⟨gb237, 1, none⟩ = some (.int .u64 t234)) (ds := []) #[false, false, false, false, false, false, false, false, false] (by kernel_rfl) rfl rfl ⟨(blk_cell BK231.out 0).trans rfl, (blk_cell BK231.out 1).trans rfl, (blk_cell BK231.out 2).trans rfl, (blk_cell BK231.out 3).trans rfl, (blk_cell BK231.out 4).trans rfl, (blk_cell BK237.out 0).trans rfl, (blk_cell BK237.out 1).trans rfl⟩ (fun hHeld => ?_); refine with_tabW impl_fromProof.tab2 impl_fromProof.bits2 (fun HT_ HW_ => ?_)
  generalize w14.drew = w15 at BK231 BK232 BK237 HB hHeld ⊢
  refine pure_ (i := 0) (N := some 12) (v := ?_) (a' := ?_) #[true, false, false, false, false, false, false, false, false] rfl rfl (any_of HT_.out (by kernel_rfl)) (fun _ _ _ h => h) (Or.inl ⟨by rfl, ?_⟩) ?_ ?_
  rotate_left
  · intro w'
    go_simp
    with_reducible rfl
  rotate_left
  · simp only [Act.put, List.setIfInBounds_toArray, List.set_cons_zero, List.set_cons_succ, i64_w, i32_w]
    rfl
  refine pure_ (i := 5) (N := some 17) (v := ?_) (a' := ?_) #[true, false, false, false, false, true, false, false, false] rfl rfl (any_of HT_.out (by kernel_rfl)) (fun _ _ _ h => h) (Or.inl ⟨by rfl, ?_⟩) ?_ ?_
  rotate_left
  · intro w'
    go_simp
    with_reducible rfl
  rotate_left
  · simp only [Act.put, List.setIfInBounds_toArray, List.set_cons_zero, List.set_cons_succ, i64_w, i32_w]
    rfl
  refine pure_ (i := 6) (N := some 18) (v := ?_) (a' := ?_) #[true, false, false, false, false, true, true, false, false] rfl rfl (any_of HT_.out (by kernel_rfl)) (fun _ _ _ h => h) (Or.inl ⟨by rfl, ?_⟩) ?_ ?_
  rotate_left
  · intro w'
    go_simp
    with_reducible rfl
  rotate_left
  · simp only [Act.put, List.setIfInBounds_toArray, List.set_cons_zero, List.set_cons_succ, i64_w, i32_w]
    rfl
  refine take_ (i := 1) (N := some 13) (v := ?_) (a' := ?_) #[true, true, false, false, false, true, true, false, false] rfl rfl (take_ofW HT_.out HW_.out (by kernel_rfl)) (fun _ _ _ h => h) (Or.inl ⟨by rfl, ?_⟩) hHeld ?_ ?_
  rotate_left
  · rintro w' ⟨s0, s1, s2, s3, s4, s5, s6⟩
    go_simp
    with_reducible rfl
  rotate_left
  · simp only [Act.put, List.setIfInBounds_toArray, List.set_cons_zero, List.set_cons_succ, i64_w, i32_w]
    rfl
  refine take_ (i := 3) (N := some 15) (v := ?_) (a' := ?_) #[true, true, false, true, false, true, true, false, false] rfl rfl (take_ofW HT_.out HW_.out (by kernel_rfl)) (fun _ _ _ h => h) (Or.inl ⟨by rfl, ?_⟩) hHeld ?_ ?_
  rotate_left
  · rintro w' ⟨s0, s1, s2, s3, s4, s5, s6⟩
    go_simp
    with_reducible rfl
  rotate_left
  · simp only [Act.put, List.setIfInBounds_toArray, List.set_cons_zero, List.set_cons_succ, i64_w, i32_w]
    rfl
  refine one_ (i := 2) (N := some 14) #[true, true, true, true, false, true, true, false, false] rfl rfl (one_of HT_.out (by kernel_rfl)) (by decide) (fun K hK => ?_)
  refine goes_ Tryd.func64 (by kernel_rfl) rfl #[.slice A0_0 l0_0.length c0_0] (by rfl) rfl rfl (by (try simp only [List.map_toArray, List.map_cons, List.map_nil]); first | done | rfl | (simp only [List.length_drop, List.length_take]; rfl)) ?_
  with_reducible refine (impl_fromNodes.calls k _ _ l0_0 t238 _ ?side1 ?side2 A3.out).mono ?_
  (case side1 => repeat (first | exact (Kd.C_below HR0_0.out HB.out) | (with_reducible refine Kd.C_alloc ?_ _) | (with_reducible refine Kd.C_drewN ?_ _) | (with_reducible refine Kd.C_drew ?_)))
  (case side2 => exact HC0_0.out)
  rintro e w16 ⟨v239, rfl, ho0, hb⟩
  refine ⟨_, rfl, ?_⟩
  have n0_ := Aside0.mk (Kd.R_lower ho0 (below_size (by repeat (first | (with_reducible first | exact HB.out | apply below_alloc | apply pw_below_drewN | apply below_drew1 | refine below_set ?_ GE231.out | refine below_set ?_ GE232.out | refine below_set ?_ GE237.out) | exact HB.out))))
  have n1_ := Aside0.mk (blk_below (g := gb231) (o := .cells #[.slice A0_0 l0_0.length c0_0, .int .i64 a0_1, .int .i64 a0_2, .int .u64 a0_3, .int .u64 a0_4] 146 (0, 0)) (by (with_reducible repeat (first | refine blk_drewN ?_ _ | refine blk_drew ?_ | refine blk_alloc ?_ _)); exact BK231.out) hb)
  have n2_ := Aside0.mk (blk_below (g := gb232) (o := .cells #[.slice none 0 0, .int .u64 0, .int .u64 0, .int .i64 0, .int .i64 0] 72 (0, 0)) (by (with_reducible repeat (first | refine blk_drewN ?_ _ | refine blk_drew ?_ | refine blk_alloc ?_ _)); exact BK232.out) hb)
  have n3_ := Aside0.mk (blk_below (g := gb237) (o := .cells #[.int .u64 t233, .int .u64 t234] 107 (0, 0)) (by (with_reducible repeat (first | refine blk_drewN ?_ _ | refine blk_drew ?_ | refine blk_alloc ?_ _)); exact BK237.out) hb)
  have n4_ := Aside0.mk (below_step (by repeat (first | (with_reducible first | exact HB.out | apply below_alloc | apply pw_below_drewN | apply below_drew1 | refine below_set ?_ GE231.out | refine below_set ?_ GE232.out | refine below_set ?_ GE237.out) | exact HB.out)) hb)
  clear BK231
  clear BK232
  clear BK237
  clear HB
  have HO240 := n0_
  have BK231 := n1_
  have BK232 := n2_
  have BK237 := n3_
  have HB := n4_
  clear n0_ n1_ n2_ n3_ n4_
  (try clear hb)
  (try clear hb2)
  (try clear hk)
  (try clear hi)
  (try clear ho0)
  refine hK.out _ _ ⟨(blk_cell BK231.out 0).trans rfl, (blk_cell BK231.out 1).trans rfl, (blk_cell BK231.out 2).trans rfl, (blk_cell BK231.out 3).trans rfl, (blk_cell BK231.out 4).trans rfl, (blk_cell BK237.out 0).trans rfl, (blk_cell BK237.out 1).trans rfl⟩ (fun hHeld => ?_)
  clear hK K
  refine norm_ (a' := ?_) ?_ ?_
  rotate_left
  · show Act.put _ (some 14) _ = _
    simp only [Act.put, List.setIfInBounds_toArray, List.set_cons_zero, List.set_cons_succ, i64_w, i32_w]
    rfl
  refine one_ (i := 4) (N := some 16) #[true, true, true, true, true, true, true, false, false] rfl rfl (one_of HT_.out (by kernel_rfl)) (by decide) (fun K hK => ?_)
  refine goes_ Tryd.func73 (by kernel_rfl) rfl #[.agg #[.int .u64 t233, .int .u64 t234]] (by rfl) rfl rfl (by (try simp only [List.map_toArray, List.map_cons, List.map_nil]); first | done | rfl | (simp only [List.length_drop, List.length_take]; rfl)) ?_
  with_reducible refine (impl_fromNode.calls t233 t234 t241 t242 _ A4.out).mono ?_
  rintro e w17 ⟨rfl, hb⟩
  refine ⟨_, rfl, ?_⟩
  have n0_ := Aside0.mk (Kd.R_below (by (with_reducible repeat (first | apply Kd.R_alloc | apply Kd.R_drewN | apply Kd.R_drew)); exact HO240.out) hb)
  have n1_ := Aside0.mk (blk_below (g := gb231) (o := .cells #[.slice A0_0 l0_0.length c0_0, .int .i64 a0_1, .int .i64 a0_2, .int .u64 a0_3, .int .u64 a0_4] 146 (0, 0)) (by (with_reducible repeat (first | refine blk_drewN ?_ _ | refine blk_drew ?_ | refine blk_alloc ?_ _)); exact BK231.out) hb)
  have n2_ := Aside0.mk (blk_below (g := gb232) (o := .cells #[.slice none 0 0, .int .u64 0, .int .u64 0, .int .i64 0, .int .i64 0] 72 (0, 0)) (by (with_reducible repeat (first | refine blk_drewN ?_ _ | refine blk_drew ?_ | refine blk_alloc ?_ _)); exact BK232.out) hb)
  have n3_ := Aside0.mk (blk_below (g := gb237) (o := .cells #[.int .u64 t233, .int .u64 t234] 107 (0, 0)) (by (with_reducible repeat (first | refine blk_drewN ?_ _ | refine blk_drew ?_ | refine blk_alloc ?_ _)); exact BK237.out) hb)
  have n4_ := Aside0.mk (below_step (by repeat (first | (with_reducible first | exact HB.out | apply below_alloc | apply pw_below_drewN | apply below_drew1 | refine below_set ?_ GE231.out | refine below_set ?_ GE232.out | refine below_set ?_ GE237.out) | exact HB.out)) hb)
  clear HO240
  clear BK231
  clear BK232
  clear BK237
  clear HB
  have HO240 := n0_
  have BK231 := n1_
  have BK232 := n2_
  have BK237 := n3_
  have HB := n4_
  clear n0_ n1_ n2_ n3_ n4_
  (try clear hb)
  (try clear hb2)
  (try clear hk)
  (try clear hi)
  obtain ⟨Ao18, co18, eo18⟩ := Kd.R_slice HO240.out
  (first | subst eo18 | (injection eo18 with f1_ f2_ f3_; have f4_ := f1_.symm; have f5_ := f3_.symm; clear f1_ f2_ f3_; subst f4_; subst f5_))
  refine hK.out _ _ ⟨(blk_cell BK231.out 0).trans rfl, (blk_cell BK231.out 1).trans rfl, (blk_cell BK231.out 2).trans rfl, (blk_cell BK231.out 3).trans rfl, (blk_cell BK231.out 4).trans rfl, (blk_cell BK237.out 0).trans rfl, (blk_cell BK237.out 1).trans rfl⟩ (fun hHeld => ?_)
  clear hK K
  refine norm_ (a' := ?_) ?_ ?_
  rotate_left
  · show Act.put _ (some 16) _ = _
    simp only [Act.put, List.setIfInBounds_toArray, List.set_cons_zero, List.set_cons_succ, i64_w, i32_w]
    rfl
  refine pure_ (i := 7) (N := some 19) (v := ?_) (a' := ?_) #[true, true, true, true, true, true, true, true, false] rfl rfl (any_of HT_.out (by kernel_rfl)) (fun _ _ _ h => h) (Or.inl ⟨by rfl, ?_⟩) ?_ ?_
  rotate_left
  · intro w'
    go_simp
    with_reducible rfl
  rotate_left
  · simp only [Act.put, List.setIfInBounds_toArray, List.set_cons_zero, List.set_cons_succ, i64_w, i32_w]
    rfl
  refine one_ (i := 8) (N := none) #[true, true, true, true, true, true, true, true, true] rfl rfl (one_of HT_.out (by kernel_rfl)) (by decide) (fun K hK => ?_)
  have hs19 : w17.cell? ⟨gb232, 0, none⟩ = some (.slice none 0 0) := (blk_cell BK232.out 0).trans rfl
  have hfs19 := blk_frozen BK232.out 0
  have hns19_0 := NB231_232.out
  have hns19_2 := NB237_232.out
  have hms19_0 := NB232_231.out
  have hms19_2 := NB232_237.out
  have hs20 : w17.cell? ⟨gb232, 1, none⟩ = some (.int .u64 0) := (blk_cell BK232.out 1).trans rfl
  have hfs20 := blk_frozen BK232.out 1
  have hns20_0 := NB231_232.out
  have hns20_2 := NB237_232.out
  have hms20_0 := NB232_231.out
  have hms20_2 := NB232_237.out
  have hs21 : w17.cell? ⟨gb232, 2, none⟩ = some (.int .u64 0) := (blk_cell BK232.out 2).trans rfl
  have hfs21 := blk_frozen BK232.out 2
  have hns21_0 := NB231_232.out
  have hns21_2 := NB237_232.out
  have hms21_0 := NB232_231.out
  have hms21_2 := NB232_237.out
  have hs22 : w17.cell? ⟨gb232, 3, none⟩ = some (.int .i64 0) := (blk_cell BK232.out 3).trans rfl
  have hfs22 := blk_frozen BK232.out 3
  have hns22_0 := NB231_232.out
  have hns22_2 := NB237_232.out
  have hms22_0 := NB232_231.out
  have hms22_2 := NB232_237.out
  have hs23 : w17.cell? ⟨gb232, 4, none⟩ = some (.int .i64 0) := (blk_cell BK232.out 4).trans rfl
  have hfs23 := blk_frozen BK232.out 4
  have hns23_0 := NB231_232.out
  have hns23_2 := NB237_232.out
  have hms23_0 := NB232_231.out
  have hms23_2 := NB232_237.out
  refine skip_ (w1 := ?_) (by rfl) rfl ?_ ?_
  rotate_left
  · go_simp
    rfl
  refine hK.out _ _ ⟨((cell_far (p := ⟨gb232, _, none⟩) NB231_232.out _).trans (((cell_far (p := ⟨gb232, _, none⟩) NB231_232.out _).trans (((cell_far (p := ⟨gb232, _, none⟩) NB231_232.out _).trans (((cell_far (p := ⟨gb232, _, none⟩) NB231_232.out _).trans (((cell_far (p := ⟨gb232, _, none⟩) NB231_232.out _).trans (hHeld.1)))))))))), ((cell_far (p := ⟨gb232, _, none⟩) NB231_232.out _).trans (((cell_far (p := ⟨gb232, _, none⟩) NB231_232.out _).trans (((cell_far (p := ⟨gb232, _, none⟩) NB231_232.out _).trans (((cell_far (p := ⟨gb232, _, none⟩) NB231_232.out _).trans (((cell_far (p := ⟨gb232, _, none⟩) NB231_232.out _).trans (hHeld.2.1)))))))))), ((cell_far (p := ⟨gb232, _, none⟩) NB231_232.out _).trans (((cell_far (p := ⟨gb232, _, none⟩) NB231_232.out _).trans (((cell_far (p := ⟨gb232, _, none⟩) NB231_232.out _).trans (((cell_far (p := ⟨gb232, _, none⟩) NB231_232.out _).trans (((cell_far (p := ⟨gb232, _, none⟩) NB231_232.out _).trans (hHeld.2.2.1)))))))))), ((cell_far (p := ⟨gb232, _, none⟩) NB231_232.out _).trans (((cell_far (p := ⟨gb232, _, none⟩) NB231_232.out _).trans (((cell_far (p := ⟨gb232, _, none⟩) NB231_232.out _).trans (((cell_far (p := ⟨gb232, _, none⟩) NB231_232.out _).trans (((cell_far (p := ⟨gb232, _, none⟩) NB231_232.out _).trans (hHeld.2.2.2.1)))))))))), ((cell_far (p := ⟨gb232, _, none⟩) NB231_232.out _).trans (((cell_far (p := ⟨gb232, _, none⟩) NB231_232.out _).trans (((cell_far (p := ⟨gb232, _, none⟩) NB231_232.out _).trans (((cell_far (p := ⟨gb232, _, none⟩) NB231_232.out _).trans (((cell_far (p := ⟨gb232, _, none⟩) NB231_232.out _).trans (hHeld.2.2.2.2.1)))))))))), ((cell_far (p := ⟨gb232, _, none⟩) NB237_232.out _).trans (((cell_far (p := ⟨gb232, _, none⟩) NB237_232.out _).trans (((cell_far (p := ⟨gb232, _, none⟩) NB237_232.out _).trans (((cell_far (p := ⟨gb232, _, none⟩) NB237_232.out _).trans (((cell_far (p := ⟨gb232, _, none⟩) NB237_232.out _).trans (hHeld.2.2.2.2.2.1)))))))))), ((cell_far (p := ⟨gb232, _, none⟩) NB237_232.out _).trans (((cell_far (p := ⟨gb232, _, none⟩) NB237_232.out _).trans (((cell_far (p := ⟨gb232, _, none⟩) NB237_232.out _).trans (((cell_far (p := ⟨gb232, _, none⟩) NB237_232.out _).trans (((cell_far (p := ⟨gb232, _, none⟩) NB237_232.out _).trans (hHeld.2.2.2.2.2.2))))))))))⟩ (fun hHeld => ?_)
  clear hK K
  refine done_ (done_of HT_.out (by kernel_rfl)) ?_
  try go_wp2
  refine bodyPost_ret (results_cell_row rfl _ _ gb232 72 #[.slice Ao18 t238.length co18, .int .u64 t241, .int .u64 t242, .int .i64 t235, .int .i64 t236] (0, 0) _ rfl (by (with_reducible repeat (first | refine blk_drewN ?_ _ | refine blk_drew ?_ | refine blk_alloc ?_ _)); refine blk_put (cs := #[.slice Ao18 t238.length co18, .int .u64 t241, .int .u64 t242, .int .i64 t235, .int .i64 0]) ?_ 4 _ rfl; (with_reducible repeat (first | refine blk_drewN ?_ _ | refine blk_drew ?_ | refine blk_alloc ?_ _)); refine blk_put (cs := #[.slice Ao18 t238.length co18, .int .u64 t241, .int .u64 t242, .int .i64 0, .int .i64 0]) ?_ 3 _ rfl; (with_reducible repeat (first | refine blk_drewN ?_ _ | refine blk_drew ?_ | refine blk_alloc ?_ _)); refine blk_put (cs := #[.slice Ao18 t238.length co18, .int .u64 t241, .int .u64 0, .int .i64 0, .int .i64 0]) ?_ 2 _ rfl; (with_reducible repeat (first | refine blk_drewN ?_ _ | refine blk_drew ?_ | refine blk_alloc ?_ _)); refine blk_put (cs := #[.slice Ao18 t238.length co18, .int .u64 0, .int .u64 0, .int .i64 0, .int .i64 0]) ?_ 1 _ rfl; (with_reducible repeat (first | refine blk_drewN ?_ _ | refine blk_drew ?_ | refine blk_alloc ?_ _)); refine blk_put (cs := #[.slice none 0 0, .int .u64 0, .int .u64 0, .int .i64 0, .int .i64 0]) ?_ 0 _ rfl; (with_reducible repeat (first | refine blk_drewN ?_ _ | refine blk_drew ?_ | refine blk_alloc ?_ _)); exact BK232.out) Tryd.underlying72 rfl (by kernel_rfl)) rfl ?_
  exact ⟨_, by first | rfl | (simp [errW_none, errW_some] <;> rfl) | (simp [*, errW_none, errW_some] <;> rfl), by (with_reducible repeat (first | apply Kd.R_alloc | apply Kd.R_drewN | apply Kd.R_drew)); exact Kd.R_mono (Kd.R_far (p := ⟨gb232, 4, none⟩) (Kd.R_far (p := ⟨gb232, 3, none⟩) (Kd.R_far (p := ⟨gb232, 2, none⟩) (Kd.R_far (p := ⟨gb232, 1, none⟩) (Kd.R_far (p := ⟨gb232, 0, none⟩) (Kd.R_types HO240.out BK232.out (by decide)) (fun _ hk => hk.2) (.slice Ao18 t238.length co18)) (fun _ hk => hk.2) (.int .u64 t241)) (fun _ hk => hk.2) (.int .u64 t242)) (fun _ hk => hk.2) (.int .i64 t235)) (fun _ hk => hk.2) (.int .i64 t236)) (fun _ hk => trivial), by repeat (first | (with_reducible first | exact HB.out | apply below_alloc | apply pw_below_drewN | apply below_drew1 | refine below_set ?_ GE231.out | refine below_set ?_ GE232.out | refine below_set ?_ GE237.out) | exact HB.out)⟩
def impl_Consistency.f (k : Nat) (a0 : Int) (a1 : Int) : Option ((List (S70)) × Int × Int × Int × Int × Bool) := (proof_Consistency.f k a0 a1).bind fun bt244 => (if bt244.2.2.2.2.2.1.isNone = true then ((impl_fromProof.f k bt244.1 bt244.2.1 bt244.2.2.1 bt244.2.2.2.1 bt244.2.2.2.2.1).bind fun bt261 => (some (bt261.1, bt261.2.1, bt261.2.2.1, bt261.2.2.2.1, bt261.2.2.2.2, true))) else (some (([] : List (S70)), 0, 0, 0, 0, false)))
theorem impl_Consistency.mono : ∀ a0 a1 k, LeO (impl_Consistency.f k a0 a1) (impl_Consistency.f (k + 1) a0 a1) := by
  intro a0 a1 k
  unfold impl_Consistency.f
  repeat' first
      | (with_reducible exact impl_fromProof.mono _ _ _ _ _ _)
      | (with_reducible exact proof_Consistency.mono _ _ _)
      | (with_reducible exact LeO.refl _)
      | (with_reducible exact LeO.none _)
      | (with_reducible refine LeO.ite ?_ ?_)
      | (with_reducible refine LeO.bind ?_ (fun _ => ?_))
      | exact impl_fromProof.mono _ _ _ _ _ _
      | exact proof_Consistency.mono _ _ _
      | exact LeO.none _
      | refine LeO.ite ?_ ?_
      | refine LeO.bind ?_ (fun _ => ?_)
set_option maxHeartbeats 8000000 in
set_option maxRecDepth 100000 in
theorem impl_Consistency.calls (k : Nat) (a0 : Int) (a1 : Int) (r1 : List (S70)) (r2 : Int) (r3 : Int) (r4 : Int) (r5 : Int) (r6 : Bool) (w : World) (hGT : GlobT w) (h : impl_Consistency.f k a0 a1 = some (r1, r2, r3, r4, r5, r6)) :
    Calls Tryd.prog 40 #[.int .u64 a0, .int .u64 a1] w fun e w' => ∃ v0_ : Value, e = .returned (.tuple #[.agg #[v0_, .int .u64 r2, .int .u64 r3, .int .i64 r4, .int .i64 r5], .bool r6]) ∧ Kd.R k70 70 w' w.heap.size (fun _ => True) v0_ r1 ∧ Below w.heap.size w w' := by
  have hu72 := Tryd.underlying72
  have hu146 := Tryd.underlying146
  have hu120 := Tryd.underlying120
  have HB := Aside0.mk (Below.refl w.heap.size w)
  have H : ((proof_Consistency.f k a0 a1).bind fun bt244 => (if bt244.2.2.2.2.2.1.isNone = true then ((impl_fromProof.f k bt244.1 bt244.2.1 bt244.2.2.1 bt244.2.2.2.1 bt244.2.2.2.2.1).bind fun bt261 => (some (bt261.1, bt261.2.1, bt261.2.2.1, bt261.2.2.2.1, bt261.2.2.2.2, true))) else (some (([] : List (S70)), 0, 0, 0, 0, false)))) = some (r1, r2, r3, r4, r5, r6) := h
  clear h
  replace H := Option.bind_eq_some_iff.mp H
  obtain ⟨⟨t244, t247, t248, t249, t250, t251, t253, t256⟩, A30, H⟩ := H
  replace H : (if t251.isNone = true then ((impl_fromProof.f k t244 t247 t248 t249 t250).bind fun bt261 => (some (bt261.1, bt261.2.1, bt261.2.2.1, bt261.2.2.2.1, bt261.2.2.2.2, true))) else (some (([] : List (S70)), 0, 0, 0, 0, false))) = some (r1, r2, r3, r4, r5, r6) := H
  have A3 := Aside0.mk A30
  clear A30
  rcases t251 with _ | q260
  · have H1 : ((impl_fromProof.f k t244 t247 t248 t249 t250).bind fun bt261 => (some (bt261.1, bt261.2.1, bt261.2.2.1, bt261.2.2.2.1, bt261.2.2.2.2, true))) = some (r1, r2, r3, r4, r5, r6) := by rw [if_pos (show (none : Option Int).isNone = true by rfl)] at H; exact H
    clear H
    have H := H1
    clear H1
    try simp only [errW_none, errW_some]
    replace H := Option.bind_eq_some_iff.mp H
    obtain ⟨⟨t261, t264, t265, t266, t267⟩, A40, H⟩ := H
    replace H : (some (t261, t264, t265, t266, t267, true)) = some (r1, r2, r3, r4, r5, r6) := H
    have A4 := Aside0.mk A40
    clear A40
    simp only [Option.some.injEq, Prod.mk.injEq] at H
    obtain ⟨rfl, rfl, rfl, rfl, rfl, rfl⟩ := H
    go_enter Tryd.func40, Tryd.ntmps40
    go_wp2_with (first | ((with_reducible refine gate_dst (N := 4) rfl ?_); refine box_event ?hg (N := 4) ?hd (cs := #[.slice none 0 0, .int .u64 0, .int .u64 0, .int .i64 0, .int .i64 0]) (t := 72) ?hr ?_; (case hd => rfl); (case hg => rfl); (case hr => first | (go_simp; done) | (go_simp; rfl)); intro gb243 hg w5 hbox hb; have n0_ := Aside0.mk (below_step (by repeat (first | (with_reducible first | exact HB.out | apply below_alloc | apply pw_below_drewN | apply below_drew1) | exact HB.out)) hb); have n1_ := Aside0.mk (hbox); have n2_ := Aside0.mk ((by rw [hg]; exact (below_size (by repeat (first | (with_reducible first | exact HB.out | apply below_alloc | apply pw_below_drewN | apply below_drew1) | exact HB.out))) : w.heap.size ≤ gb243)); have n3_ := Aside0.mk ((by rw [hg]; exact (below_size (by repeat (first | (with_reducible first | exact HB.out | apply below_alloc | apply pw_below_drewN | apply below_drew1) | exact HB.out))) : w.heap.size ≤ gb243)); clear HB; have HB := n0_; have BK243 := n1_; have GW243 := n2_; have GE243 := n3_; clear n0_ n1_ n2_ n3_; clear hb hbox hg) | ((with_reducible refine gate_callee (f := 92) rfl ?_); refine goesL_ (some 11) rfl rfl Tryd.func92 (by kernel_rfl) rfl #[.int .u64 a0, .int .u64 a1] rfl (by (try simp only [List.map_toArray, List.map_cons, List.map_nil]); first | done | rfl | (simp only [List.length_drop, List.length_take]; rfl)) ?_; (with_reducible refine (proof_Consistency.calls k a0 a1 t244 t247 t248 t249 t250 none t253 t256 _ ?side1 A3.out).mono ?_); (case side1 => exact GlobT.below hGT (by repeat (first | (with_reducible first | exact HB.out | apply below_alloc | apply pw_below_drewN | apply below_drew1 | refine below_set ?_ GE243.out) | exact HB.out))); rintro e w6 ⟨v245, v254, v257, qe252, rfl, ho0, ho1, ho2, hb⟩; refine ⟨_, rfl, ?_⟩; have n0_ := Aside0.mk (Kd.V_lower (Kd.V_mono (ok' := fun k_ => some k_ ≠ (v254 : Value).ownBlock ∧ some k_ ≠ (v257 : Value).ownBlock ∧ k_ ≠ gb243) ho0 (fun k_ hk_ => ⟨hk_.2.1, hk_.2.2, (Kd.freshB (g := gb243) (o := .cells #[.slice none 0 0, .int .u64 0, .int .u64 0, .int .i64 0, .int .i64 0] 72 (0, 0)) (by (with_reducible repeat (first | refine blk_drewN ?_ _ | refine blk_drew ?_ | refine blk_alloc ?_ _)); exact BK243.out) k_ hk_.1)⟩)) (below_size (by repeat (first | (with_reducible first | exact HB.out | apply below_alloc | apply pw_below_drewN | apply below_drew1 | refine below_set ?_ GE243.out) | exact HB.out)))); have n1_ := Aside0.mk (Kd.R_lower (Kd.R_mono (ok' := fun k_ => some k_ ≠ (v257 : Value).ownBlock) ho1 (fun _ hk_ => hk_.2)) (below_size (by repeat (first | (with_reducible first | exact HB.out | apply below_alloc | apply pw_below_drewN | apply below_drew1 | refine below_set ?_ GE243.out) | exact HB.out)))); have n2_ := Aside0.mk (Kd.R_lower (Kd.R_mono (ok' := fun k_ => some k_ ≠ (v254 : Value).ownBlock) ho2 (fun _ hk_ => hk_.2)) (below_size (by repeat (first | (with_reducible first | exact HB.out | apply below_alloc | apply pw_below_drewN | apply below_drew1 | refine below_set ?_ GE243.out) | exact HB.out)))); have n3_ := Aside0.mk (blk_below (g := gb243) (o := .cells #[.slice none 0 0, .int .u64 0, .int .u64 0, .int .i64 0, .int .i64 0] 72 (0, 0)) (by (with_reducible repeat (first | refine blk_drewN ?_ _ | refine blk_drew ?_ | refine blk_alloc ?_ _)); exact BK243.out) hb); have n4_ := Aside0.mk (below_step (by repeat (first | (with_reducible first | exact HB.out | apply below_alloc | apply pw_below_drewN | apply below_drew1 | refine below_set ?_ GE243.out) | exact HB.out)) hb); clear BK243; clear HB; have HO246 := n0_; have HO255 := n1_; have HO258 := n2_; have BK243 := n3_; have HB := n4_; clear n0_ n1_ n2_ n3_ n4_; (try clear hb); (try clear hb2); (try clear hk); (try clear hi); (try clear ho0); (try clear ho1); (try clear ho2); (try simp only [errW_none, errW_some])) | ((with_reducible refine gate_dst (N := 6) rfl ?_); refine box_event ?hg (N := 6) ?hd (cs := #[.slice none 0 0, .int .i64 0, .int .i64 0, .int .u64 0, .int .u64 0]) (t := 146) ?hr ?_; (case hd => rfl); (case hg => rfl); (case hr => first | (go_simp; done) | (go_simp; rfl)); intro gb259 hg w7 hbox hb; have n0_ := Aside0.mk (Kd.V_below (Kd.V_elderB (by (with_reducible repeat (first | apply Kd.V_alloc | apply Kd.V_drewN | apply Kd.V_drew)); exact HO246.out) gb259 (Nat.le_of_eq hg.symm)) hb); have n1_ := Aside0.mk (Kd.R_below (by (with_reducible repeat (first | apply Kd.R_alloc | apply Kd.R_drewN | apply Kd.R_drew)); exact HO255.out) hb); have n2_ := Aside0.mk (Kd.R_below (by (with_reducible repeat (first | apply Kd.R_alloc | apply Kd.R_drewN | apply Kd.R_drew)); exact HO258.out) hb); have n3_ := Aside0.mk (blk_below (g := gb243) (o := .cells #[.slice none 0 0, .int .u64 0, .int .u64 0, .int .i64 0, .int .i64 0] 72 (0, 0)) (by (with_reducible repeat (first | refine blk_drewN ?_ _ | refine blk_drew ?_ | refine blk_alloc ?_ _)); exact BK243.out) hb); have n4_ := Aside0.mk (below_step (by repeat (first | (with_reducible first | exact HB.out | apply below_alloc | apply pw_below_drewN | apply below_drew1 | refine below_set ?_ GE243.out) | exact HB.out)) hb); have n5_ := Aside0.mk (hbox); have n6_ := Aside0.mk ((by rw [hg]; exact (below_size (by repeat (first | (with_reducible first | exact HB.out | apply below_alloc | apply pw_below_drewN | apply below_drew1 | refine below_set ?_ GE243.out) | exact HB.out))) : w.heap.size ≤ gb259)); have n7_ := Aside0.mk ((by rw [hg]; exact (below_size (by repeat (first | (with_reducible first | exact HB.out | apply below_alloc | apply pw_below_drewN | apply below_drew1 | refine below_set ?_ GE243.out) | exact HB.out))) : w.heap.size ≤ gb259)); have n8_ := Aside0.mk ((by rw [hg]; exact Nat.ne_of_lt (blk_lt (g := gb243) (o := .cells #[.slice none 0 0, .int .u64 0, .int .u64 0, .int .i64 0, .int .i64 0] 72 (0, 0)) (by (with_reducible repeat (first | refine blk_drewN ?_ _ | refine blk_drew ?_ | refine blk_alloc ?_ _)); exact BK243.out)) : gb243 ≠ gb259)); have n9_ := Aside0.mk ((by rw [hg]; exact Nat.ne_of_gt (blk_lt (g := gb243) (o := .cells #[.slice none 0 0, .int .u64 0, .int .u64 0, .int .i64 0, .int .i64 0] 72 (0, 0)) (by (with_reducible repeat (first | refine blk_drewN ?_ _ | refine blk_drew ?_ | refine blk_alloc ?_ _)); exact BK243.out)) : gb259 ≠ gb243)); clear HO246; clear HO255; clear HO258; clear BK243; clear HB; have HO246 := n0_; have HO255 := n1_; have HO258 := n2_; have BK243 := n3_; have HB := n4_; have BK259 := n5_; have GW259 := n6_; have GE259 := n7_; have NB243_259 := n8_; have NB259_243 := n9_; clear n0_ n1_ n2_ n3_ n4_ n5_ n6_ n7_ n8_ n9_; clear hb hbox hg; obtain ⟨Ao8, co8, eo8⟩ := Kd.V_slice HO246.out; subst eo8; have hnb9 := NB259_243.out; have hnc9 := NB243_259.out; have hcz10_0 : w7.cell? ⟨gb259, 0, none⟩ = some (.slice none 0 0) := (blk_cell BK259.out 0).trans rfl; have hcz10_1 : w7.cell? ⟨gb259, 1, none⟩ = some (.int .i64 0) := (blk_cell BK259.out 1).trans rfl; have hcz10_2 : w7.cell? ⟨gb259, 2, none⟩ = some (.int .i64 0) := (blk_cell BK259.out 2).trans rfl; have hcz10_3 : w7.cell? ⟨gb259, 3, none⟩ = some (.int .u64 0) := (blk_cell BK259.out 3).trans rfl; have hcz10_4 : w7.cell? ⟨gb259, 4, none⟩ = some (.int .u64 0) := (blk_cell BK259.out 4).trans rfl; have hfz10_0 := blk_frozen BK259.out 0; have hfz10_1 := blk_frozen BK259.out 1; have hfz10_2 := blk_frozen BK259.out 2; have hfz10_3 := blk_frozen BK259.out 3; have hfz10_4 := blk_frozen BK259.out 4) | ((with_reducible refine gate_callee (f := 93) rfl ?_); refine goesL_ (some 18) rfl rfl Tryd.func93 (by kernel_rfl) rfl #[.agg #[.slice Ao8 t244.length co8, .int .i64 t247, .int .i64 t248, .int .u64 t249, .int .u64 t250]] rfl (by (try simp only [List.map_toArray, List.map_cons, List.map_nil]); first | done | rfl | (simp only [List.length_drop, List.length_take]; rfl)) ?_; (with_reducible refine (impl_fromProof.calls k _ _ t244 t247 t248 t249 t250 t261 t264 t265 t266 t267 _ ?side1 ?side2 A4.out).mono ?_); (case side1 => refine (Kd.V_reads' (e := 107) (base := w.heap.size) (ok := fun k_ => ((some k_ ≠ (v254 : Value).ownBlock ∧ (some k_ ≠ (v257 : Value).ownBlock ∧ k_ ≠ gb243)) ∧ k_ ≠ gb259)) (n := t244.length) (c := co8) ?_).2.2; exact (by (with_reducible repeat (first | apply Kd.V_alloc | apply Kd.V_drewN | apply Kd.V_drew)); exact (Kd.V_mono (Kd.V_far (p := ⟨gb259, 4, none⟩) (Kd.V_far (p := ⟨gb259, 3, none⟩) (Kd.V_far (p := ⟨gb259, 2, none⟩) (Kd.V_far (p := ⟨gb259, 1, none⟩) (Kd.V_far (p := ⟨gb259, 0, none⟩) (Kd.V_mono HO246.out (fun k_ hk => (⟨hk, hk.2⟩ : _ ∧ k_ ≠ gb259))) (fun _ hk => hk.2) (.slice Ao8 t244.length co8)) (fun _ hk => hk.2) (.int .i64 t247)) (fun _ hk => hk.2) (.int .i64 t248)) (fun _ hk => hk.2) (.int .u64 t249)) (fun _ hk => hk.2) (.int .u64 t250)) (fun _ h_ => h_.1)))); (case side2 => exact (Kd.V_reads' HO246.out).2.1); rintro e w11 ⟨v262, rfl, ho0, hb⟩; refine ⟨_, rfl, ?_⟩; have n0_ := Aside0.mk (Kd.V_elder' (by (with_reducible repeat (first | apply Kd.V_alloc | apply Kd.V_drewN | apply Kd.V_drew)); exact (Kd.V_mono (Kd.V_far (p := ⟨gb259, 4, none⟩) (Kd.V_far (p := ⟨gb259, 3, none⟩) (Kd.V_far (p := ⟨gb259, 2, none⟩) (Kd.V_far (p := ⟨gb259, 1, none⟩) (Kd.V_far (p := ⟨gb259, 0, none⟩) (Kd.V_mono HO246.out (fun k_ hk => (⟨hk, hk.2⟩ : _ ∧ k_ ≠ gb259))) (fun _ hk => hk.2) (.slice Ao8 t244.length co8)) (fun _ hk => hk.2) (.int .i64 t247)) (fun _ hk => hk.2) (.int .i64 t248)) (fun _ hk => hk.2) (.int .u64 t249)) (fun _ hk => hk.2) (.int .u64 t250)) (fun _ h_ => h_.1))) (Kd.R_base ho0) hb); have n1_ := Aside0.mk (Kd.R_below (by (with_reducible repeat (first | apply Kd.R_alloc | apply Kd.R_drewN | apply Kd.R_drew)); exact (Kd.R_mono (Kd.R_far (p := ⟨gb259, 4, none⟩) (Kd.R_far (p := ⟨gb259, 3, none⟩) (Kd.R_far (p := ⟨gb259, 2, none⟩) (Kd.R_far (p := ⟨gb259, 1, none⟩) (Kd.R_far (p := ⟨gb259, 0, none⟩) (Kd.R_types HO255.out BK259.out (by decide)) (fun _ hk => hk.2) (.slice Ao8 t244.length co8)) (fun _ hk => hk.2) (.int .i64 t247)) (fun _ hk => hk.2) (.int .i64 t248)) (fun _ hk => hk.2) (.int .u64 t249)) (fun _ hk => hk.2) (.int .u64 t250)) (fun _ h_ => h_.1))) hb); have n2_ := Aside0.mk (Kd.R_below (by (with_reducible repeat (first | apply Kd.R_alloc | apply Kd.R_drewN | apply Kd.R_drew)); exact (Kd.R_mono (Kd.R_far (p := ⟨gb259, 4, none⟩) (Kd.R_far (p := ⟨gb259, 3, none⟩) (Kd.R_far (p := ⟨gb259, 2, none⟩) (Kd.R_far (p := ⟨gb259, 1, none⟩) (Kd.R_far (p := ⟨gb259, 0, none⟩) (Kd.R_types HO258.out BK259.out (by decide)) (fun _ hk => hk.2) (.slice Ao8 t244.length co8)) (fun _ hk => hk.2) (.int .i64 t247)) (fun _ hk => hk.2) (.int .i64 t248)) (fun _ hk => hk.2) (.int .u64 t249)) (fun _ hk => hk.2) (.int .u64 t250)) (fun _ h_ => h_.1))) hb); have n3_ := Aside0.mk (Kd.R_lower ho0 (below_size (by repeat (first | (with_reducible first | exact HB.out | apply below_alloc | apply pw_below_drewN | apply below_drew1 | refine below_set ?_ GE243.out | refine below_set ?_ GE259.out) | exact HB.out)))); have n4_ := Aside0.mk (blk_below (g := gb243) (o := .cells #[.slice none 0 0, .int .u64 0, .int .u64 0, .int .i64 0, .int .i64 0] 72 (0, 0)) (by (with_reducible repeat (first | refine blk_drewN ?_ _ | refine blk_drew ?_ | refine blk_alloc ?_ _)); refine blk_far ?_ NB243_259.out _; (with_reducible repeat (first | refine blk_drewN ?_ _ | refine blk_drew ?_ | refine blk_alloc ?_ _)); refine blk_far ?_ NB243_259.out _; (with_reducible repeat (first | refine blk_drewN ?_ _ | refine blk_drew ?_ | refine blk_alloc ?_ _)); refine blk_far ?_ NB243_259.out _; (with_reducible repeat (first | refine blk_drewN ?_ _ | refine blk_drew ?_ | refine blk_alloc ?_ _)); refine blk_far ?_ NB243_259.out _; (with_reducible repeat (first | refine blk_drewN ?_ _ | refine blk_drew ?_ | refine blk_alloc ?_ _)); refine blk_far ?_ NB243_259.out _; (with_reducible repeat (first | refine blk_drewN ?_ _ | refine blk_drew ?_ | refine blk_alloc ?_ _)); exact BK243.out) hb); have n5_ := Aside0.mk (blk_below (g := gb259) (o := .cells #[.slice Ao8 t244.length co8, .int .i64 t247, .int .i64 t248, .int .u64 t249, .int .u64 t250] 146 (0, 0)) (by (with_reducible repeat (first | refine blk_drewN ?_ _ | refine blk_drew ?_ | refine blk_alloc ?_ _)); refine blk_put (cs := #[.slice Ao8 t244.length co8, .int .i64 t247, .int .i64 t248, .int .u64 t249, .int .u64 0]) ?_ 4 _ rfl; (with_reducible repeat (first | refine blk_drewN ?_ _ | refine blk_drew ?_ | refine blk_alloc ?_ _)); refine blk_put (cs := #[.slice Ao8 t244.length co8, .int .i64 t247, .int .i64 t248, .int .u64 0, .int .u64 0]) ?_ 3 _ rfl; (with_reducible repeat (first | refine blk_drewN ?_ _ | refine blk_drew ?_ | refine blk_alloc ?_ _)); refine blk_put (cs := #[.slice Ao8 t244.length co8, .int .i64 t247, .int .i64 0, .int .u64 0, .int .u64 0]) ?_ 2 _ rfl; (with_reducible repeat (first | refine blk_drewN ?_ _ | refine blk_drew ?_ | refine blk_alloc ?_ _)); refine blk_put (cs := #[.slice Ao8 t244.length co8, .int .i64 0, .int .i64 0, .int .u64 0, .int .u64 0]) ?_ 1 _ rfl; (with_reducible repeat (first | refine blk_drewN ?_ _ | refine blk_drew ?_ | refine blk_alloc ?_ _)); refine blk_put (cs := #[.slice none 0 0, .int .i64 0, .int .i64 0, .int .u64 0, .int .u64 0]) ?_ 0 _ rfl; (with_reducible repeat (first | refine blk_drewN ?_ _ | refine blk_drew ?_ | refine blk_alloc ?_ _)); exact BK259.out) hb); have n6_ := Aside0.mk (below_step (by repeat (first | (with_reducible first | exact HB.out | apply below_alloc | apply pw_below_drewN | apply below_drew1 | refine below_set ?_ GE243.out | refine below_set ?_ GE259.out) | exact HB.out)) hb); clear HO246; clear HO255; clear HO258; clear BK243; clear BK259; clear HB; have HO246 := n0_; have HO255 := n1_; have HO258 := n2_; have HO263 := n3_; have BK243 := n4_; have BK259 := n5_; have HB := n6_; clear n0_ n1_ n2_ n3_ n4_ n5_ n6_; (try clear hb); (try clear hb2); (try clear hk); (try clear hi); (try clear ho0); obtain ⟨Ao12, co12, eo12⟩ := Kd.R_slice HO263.out; subst eo12; have hcz13_0 : w11.cell? ⟨gb243, 0, none⟩ = some (.slice none 0 0) := (blk_cell BK243.out 0).trans rfl; have hcz13_1 : w11.cell? ⟨gb243, 1, none⟩ = some (.int .u64 0) := (blk_cell BK243.out 1).trans rfl; have hcz13_2 : w11.cell? ⟨gb243, 2, none⟩ = some (.int .u64 0) := (blk_cell BK243.out 2).trans rfl; have hcz13_3 : w11.cell? ⟨gb243, 3, none⟩ = some (.int .i64 0) := (blk_cell BK243.out 3).trans rfl; have hcz13_4 : w11.cell? ⟨gb243, 4, none⟩ = some (.int .i64 0) := (blk_cell BK243.out 4).trans rfl; have hfz13_0 := blk_frozen BK243.out 0; have hfz13_1 := blk_frozen BK243.out 1; have hfz13_2 := blk_frozen BK243.out 2; have hfz13_3 := blk_frozen BK243.out 3; have hfz13_4 := blk_frozen BK243.out 4))
    refine bodyPost_ret (results_ct rfl _ _ gb243 72 #[.slice Ao12 t261.length co12, .int .u64 t264, .int .u64 t265, .int .i64 t266, .int .i64 t267] (0, 0) _ rfl (by (with_reducible repeat (first | refine blk_drewN ?_ _ | refine blk_drew ?_ | refine blk_alloc ?_ _)); refine blk_put (cs := #[.slice Ao12 t261.length co12, .int .u64 t264, .int .u64 t265, .int .i64 t266, .int .i64 0]) ?_ 4 _ rfl; (with_reducible repeat (first | refine blk_drewN ?_ _ | refine blk_drew ?_ | refine blk_alloc ?_ _)); refine blk_put (cs := #[.slice Ao12 t261.length co12, .int .u64 t264, .int .u64 t265, .int .i64 0, .int .i64 0]) ?_ 3 _ rfl; (with_reducible repeat (first | refine blk_drewN ?_ _ | refine blk_drew ?_ | refine blk_alloc ?_ _)); refine blk_put (cs := #[.slice Ao12 t261.length co12, .int .u64 t264, .int .u64 0, .int .i64 0, .int .i64 0]) ?_ 2 _ rfl; (with_reducible repeat (first | refine blk_drewN ?_ _ | refine blk_drew ?_ | refine blk_alloc ?_ _)); refine blk_put (cs := #[.slice Ao12 t261.length co12, .int .u64 0, .int .u64 0, .int .i64 0, .int .i64 0]) ?_ 1 _ rfl; (with_reducible repeat (first | refine blk_drewN ?_ _ | refine blk_drew ?_ | refine blk_alloc ?_ _)); refine blk_put (cs := #[.slice none 0 0, .int .u64 0, .int .u64 0, .int .i64 0, .int .i64 0]) ?_ 0 _ rfl; (with_reducible repeat (first | refine blk_drewN ?_ _ | refine blk_drew ?_ | refine blk_alloc ?_ _)); exact BK243.out) Tryd.underlying72 rfl (by kernel_rfl)) rfl ?_
    exact ⟨_, by first | rfl | (simp [errW_none, errW_some] <;> rfl) | (simp [*, errW_none, errW_some] <;> rfl), by (with_reducible repeat (first | apply Kd.R_alloc | apply Kd.R_drewN | apply Kd.R_drew)); exact Kd.R_mono (Kd.R_far (p := ⟨gb243, 4, none⟩) (Kd.R_far (p := ⟨gb243, 3, none⟩) (Kd.R_far (p := ⟨gb243, 2, none⟩) (Kd.R_far (p := ⟨gb243, 1, none⟩) (Kd.R_far (p := ⟨gb243, 0, none⟩) (Kd.R_types HO263.out BK243.out (by decide)) (fun _ hk => hk.2) (.slice Ao12 t261.length co12)) (fun _ hk => hk.2) (.int .u64 t264)) (fun _ hk => hk.2) (.int .u64 t265)) (fun _ hk => hk.2) (.int .i64 t266)) (fun _ hk => hk.2) (.int .i64 t267)) (fun _ hk => trivial), by repeat (first | (with_reducible first | exact HB.out | apply below_alloc | apply pw_below_drewN | apply below_drew1 | refine below_set ?_ GE243.out | refine below_set ?_ GE259.out) | exact HB.out)⟩
  · have H1 : (some (([] : List (S70)), 0, 0, 0, 0, false)) = some (r1, r2, r3, r4, r5, r6) := by rw [if_neg (show ¬ (some q260).isNone = true by simp)] at H; exact H
    clear H
    have H := H1
    clear H1
    try simp only [errW_none, errW_some]
    simp only [Option.some.injEq, Prod.mk.injEq] at H
    obtain ⟨rfl, rfl, rfl, rfl, rfl, rfl⟩ := H
    go_enter Tryd.func40, Tryd.ntmps40
    go_wp2_with (first | ((with_reducible refine gate_dst (N := 4) rfl ?_); refine box_event ?hg (N := 4) ?hd (cs := #[.slice none 0 0, .int .u64 0, .int .u64 0, .int .i64 0, .int .i64 0]) (t := 72) ?hr ?_; (case hd => rfl); (case hg => rfl); (case hr => first | (go_simp; done) | (go_simp; rfl)); intro gb243 hg w14 hbox hb; have n0_ := Aside0.mk (below_step (by repeat (first | (with_reducible first | exact HB.out | apply below_alloc | apply pw_below_drewN | apply below_drew1) | exact HB.out)) hb); have n1_ := Aside0.mk (hbox); have n2_ := Aside0.mk ((by rw [hg]; exact (below_size (by repeat (first | (with_reducible first | exact HB.out | apply below_alloc | apply pw_below_drewN | apply below_drew1) | exact HB.out))) : w.heap.size ≤ gb243)); have n3_ := Aside0.mk ((by rw [hg]; exact (below_size (by repeat (first | (with_reducible first | exact HB.out | apply below_alloc | apply pw_below_drewN | apply below_drew1) | exact HB.out))) : w.heap.size ≤ gb243)); clear HB; have HB := n0_; have BK243 := n1_; have GW243 := n2_; have GE243 := n3_; clear n0_ n1_ n2_ n3_; clear hb hbox hg) | ((with_reducible refine gate_callee (f := 92) rfl ?_); refine goesL_ (some 11) rfl rfl Tryd.func92 (by kernel_rfl) rfl #[.int .u64 a0, .int .u64 a1] rfl (by (try simp only [List.map_toArray, List.map_cons, List.map_nil]); first | done | rfl | (simp only [List.length_drop, List.length_take]; rfl)) ?_; (with_reducible refine (proof_Consistency.calls k a0 a1 t244 t247 t248 t249 t250 (some q260) t253 t256 _ ?side1 A3.out).mono ?_); (case side1 => exact GlobT.below hGT (by repeat (first | (with_reducible first | exact HB.out | apply below_alloc | apply pw_below_drewN | apply below_drew1 | refine below_set ?_ GE243.out) | exact HB.out))); rintro e w15 ⟨v245, v254, v257, qe252, rfl, ho0, ho1, ho2, hb⟩; refine ⟨_, rfl, ?_⟩; have n0_ := Aside0.mk (Kd.V_lower (Kd.V_mono (ok' := fun k_ => some k_ ≠ (v254 : Value).ownBlock ∧ some k_ ≠ (v257 : Value).ownBlock ∧ k_ ≠ gb243) ho0 (fun k_ hk_ => ⟨hk_.2.1, hk_.2.2, (Kd.freshB (g := gb243) (o := .cells #[.slice none 0 0, .int .u64 0, .int .u64 0, .int .i64 0, .int .i64 0] 72 (0, 0)) (by (with_reducible repeat (first | refine blk_drewN ?_ _ | refine blk_drew ?_ | refine blk_alloc ?_ _)); exact BK243.out) k_ hk_.1)⟩)) (below_size (by repeat (first | (with_reducible first | exact HB.out | apply below_alloc | apply pw_below_drewN | apply below_drew1 | refine below_set ?_ GE243.out) | exact HB.out)))); have n1_ := Aside0.mk (Kd.R_lower (Kd.R_mono (ok' := fun k_ => some k_ ≠ (v257 : Value).ownBlock) ho1 (fun _ hk_ => hk_.2)) (below_size (by repeat (first | (with_reducible first | exact HB.out | apply below_alloc | apply pw_below_drewN | apply below_drew1 | refine below_set ?_ GE243.out) | exact HB.out)))); have n2_ := Aside0.mk (Kd.R_lower (Kd.R_mono (ok' := fun k_ => some k_ ≠ (v254 : Value).ownBlock) ho2 (fun _ hk_ => hk_.2)) (below_size (by repeat (first | (with_reducible first | exact HB.out | apply below_alloc | apply pw_below_drewN | apply below_drew1 | refine below_set ?_ GE243.out) | exact HB.out)))); have n3_ := Aside0.mk (blk_below (g := gb243) (o := .cells #[.slice none 0 0, .int .u64 0, .int .u64 0, .int .i64 0, .int .i64 0] 72 (0, 0)) (by (with_reducible repeat (first | refine blk_drewN ?_ _ | refine blk_drew ?_ | refine blk_alloc ?_ _)); exact BK243.out) hb); have n4_ := Aside0.mk (below_step (by repeat (first | (with_reducible first | exact HB.out | apply below_alloc | apply pw_below_drewN | apply below_drew1 | refine below_set ?_ GE243.out) | exact HB.out)) hb); clear BK243; clear HB; have HO246 := n0_; have HO255 := n1_; have HO258 := n2_; have BK243 := n3_; have HB := n4_; clear n0_ n1_ n2_ n3_ n4_; (try clear hb); (try clear hb2); (try clear hk); (try clear hi); (try clear ho0); (try clear ho1); (try clear ho2); (try simp only [errW_none, errW_some])) | ((with_reducible refine gate_dst (N := 6) rfl ?_); refine box_event ?hg (N := 6) ?hd (cs := #[.slice none 0 0, .int .i64 0, .int .i64 0, .int .u64 0, .int .u64 0]) (t := 146) ?hr ?_; (case hd => rfl); (case hg => rfl); (case hr => first | (go_simp; done) | (go_simp; rfl)); intro gb259 hg w16 hbox hb; have n0_ := Aside0.mk (Kd.V_below (Kd.V_elderB (by (with_reducible repeat (first | apply Kd.V_alloc | apply Kd.V_drewN | apply Kd.V_drew)); exact HO246.out) gb259 (Nat.le_of_eq hg.symm)) hb); have n1_ := Aside0.mk (Kd.R_below (by (with_reducible repeat (first | apply Kd.R_alloc | apply Kd.R_drewN | apply Kd.R_drew)); exact HO255.out) hb); have n2_ := Aside0.mk (Kd.R_below (by (with_reducible repeat (first | apply Kd.R_alloc | apply Kd.R_drewN | apply Kd.R_drew)); exact HO258.out) hb); have n3_ := Aside0.mk (blk_below (g := gb243) (o := .cells #[.slice none 0 0, .int .u64 0, .int .u64 0, .int .i64 0, .int .i64 0] 72 (0, 0)) (by (with_reducible repeat (first | refine blk_drewN ?_ _ | refine blk_drew ?_ | refine blk_alloc ?_ _)); exact BK243.out) hb); have n4_ := Aside0.mk (below_step (by repeat (first | (with_reducible first | exact HB.out | apply below_alloc | apply pw_below_drewN | apply below_drew1 | refine below_set ?_ GE243.out) | exact HB.out)) hb); have n5_ := Aside0.mk (hbox); have n6_ := Aside0.mk ((by rw [hg]; exact (below_size (by repeat (first | (with_reducible first | exact HB.out | apply below_alloc | apply pw_below_drewN | apply below_drew1 | refine below_set ?_ GE243.out) | exact HB.out))) : w.heap.size ≤ gb259)); have n7_ := Aside0.mk ((by rw [hg]; exact (below_size (by repeat (first | (with_reducible first | exact HB.out | apply below_alloc | apply pw_below_drewN | apply below_drew1 | refine below_set ?_ GE243.out) | exact HB.out))) : w.heap.size ≤ gb259)); have n8_ := Aside0.mk ((by rw [hg]; exact Nat.ne_of_lt (blk_lt (g := gb243) (o := .cells #[.slice none 0 0, .int .u64 0, .int .u64 0, .int .i64 0, .int .i64 0] 72 (0, 0)) (by (with_reducible repeat (first | refine blk_drewN ?_ _ | refine blk_drew ?_ | refine blk_alloc ?_ _)); exact BK243.out)) : gb243 ≠ gb259)); have n9_ := Aside0.mk ((by rw [hg]; exact Nat.ne_of_gt (blk_lt (g := gb243) (o := .cells #[.slice none 0 0, .int .u64 0, .int .u64 0, .int .i64 0, .int .i64 0] 72 (0, 0)) (by (with_reducible repeat (first | refine blk_drewN ?_ _ | refine blk_drew ?_ | refine blk_alloc ?_ _)); exact BK243.out)) : gb259 ≠ gb243)); clear HO246; clear HO255; clear HO258; clear BK243; clear HB; have HO246 := n0_; have HO255 := n1_; have HO258 := n2_; have BK243 := n3_; have HB := n4_; have BK259 := n5_; have GW259 := n6_; have GE259 := n7_; have NB243_259 := n8_; have NB259_243 := n9_; clear n0_ n1_ n2_ n3_ n4_ n5_ n6_ n7_ n8_ n9_; clear hb hbox hg; obtain ⟨Ao17, co17, eo17⟩ := Kd.V_slice HO246.out; subst eo17; have hnb18 := NB259_243.out; have hnc18 := NB243_259.out; have hcz19_0 : w16.cell? ⟨gb259, 0, none⟩ = some (.slice none 0 0) := (blk_cell BK259.out 0).trans rfl; have hcz19_1 : w16.cell? ⟨gb259, 1, none⟩ = some (.int .i64 0) := (blk_cell BK259.out 1).trans rfl; have hcz19_2 : w16.cell? ⟨gb259, 2, none⟩ = some (.int .i64 0) := (blk_cell BK259.out 2).trans rfl; have hcz19_3 : w16.cell? ⟨gb259, 3, none⟩ = some (.int .u64 0) := (blk_cell BK259.out 3).trans rfl; have hcz19_4 : w16.cell? ⟨gb259, 4, none⟩ = some (.int .u64 0) := (blk_cell BK259.out 4).trans rfl; have hfz19_0 := blk_frozen BK259.out 0; have hfz19_1 := blk_frozen BK259.out 1; have hfz19_2 := blk_frozen BK259.out 2; have hfz19_3 := blk_frozen BK259.out 3; have hfz19_4 := blk_frozen BK259.out 4; have hcz20_0 : w16.cell? ⟨gb243, 0, none⟩ = some (.slice none 0 0) := (blk_cell BK243.out 0).trans rfl; have hcz20_1 : w16.cell? ⟨gb243, 1, none⟩ = some (.int .u64 0) := (blk_cell BK243.out 1).trans rfl; have hcz20_2 : w16.cell? ⟨gb243, 2, none⟩ = some (.int .u64 0) := (blk_cell BK243.out 2).trans rfl; have hcz20_3 : w16.cell? ⟨gb243, 3, none⟩ = some (.int .i64 0) := (blk_cell BK243.out 3).trans rfl; have hcz20_4 : w16.cell? ⟨gb243, 4, none⟩ = some (.int .i64 0) := (blk_cell BK243.out 4).trans rfl; have hfz20_0 := blk_frozen BK243.out 0; have hfz20_1 := blk_frozen BK243.out 1; have hfz20_2 := blk_frozen BK243.out 2; have hfz20_3 := blk_frozen BK243.out 3; have hfz20_4 := blk_frozen BK243.out 4))
    refine bodyPost_ret (results_ct rfl _ _ gb243 72 #[.slice none 0 0, .int .u64 0, .int .u64 0, .int .i64 0, .int .i64 0] (0, 0) _ rfl (by (with_reducible repeat (first | refine blk_drewN ?_ _ | refine blk_drew ?_ | refine blk_alloc ?_ _)); refine blk_put (cs := #[.slice none 0 0, .int .u64 0, .int .u64 0, .int .i64 0, .int .i64 0]) ?_ 4 _ rfl; (with_reducible repeat (first | refine blk_drewN ?_ _ | refine blk_drew ?_ | refine blk_alloc ?_ _)); refine blk_put (cs := #[.slice none 0 0, .int .u64 0, .int .u64 0, .int .i64 0, .int .i64 0]) ?_ 3 _ rfl; (with_reducible repeat (first | refine blk_drewN ?_ _ | refine blk_drew ?_ | refine blk_alloc ?_ _)); refine blk_put (cs := #[.slice none 0 0, .int .u64 0, .int .u64 0, .int .i64 0, .int .i64 0]) ?_ 2 _ rfl; (with_reducible repeat (first | refine blk_drewN ?_ _ | refine blk_drew ?_ | refine blk_alloc ?_ _)); refine blk_put (cs := #[.slice none 0 0, .int .u64 0, .int .u64 0, .int .i64 0, .int .i64 0]) ?_ 1 _ rfl; (with_reducible repeat (first | refine blk_drewN ?_ _ | refine blk_drew ?_ | refine blk_alloc ?_ _)); refine blk_put (cs := #[.slice none 0 0, .int .u64 0, .int .u64 0, .int .i64 0, .int .i64 0]) ?_ 0 _ rfl; (with_reducible repeat (first | refine blk_drewN ?_ _ | refine blk_drew ?_ | refine blk_alloc ?_ _)); refine blk_far ?_ NB243_259.out _; (with_reducible repeat (first | refine blk_drewN ?_ _ | refine blk_drew ?_ | refine blk_alloc ?_ _)); refine blk_far ?_ NB243_259.out _; (with_reducible repeat (first | refine blk_drewN ?_ _ | refine blk_drew ?_ | refine blk_alloc ?_ _)); refine blk_far ?_ NB243_259.out _; (with_reducible repeat (first | refine blk_drewN ?_ _ | refine blk_drew ?_ | refine blk_alloc ?_ _)); refine blk_far ?_ NB243_259.out _; (with_reducible repeat (first | refine blk_drewN ?_ _ | refine blk_drew ?_ | refine blk_alloc ?_ _)); refine blk_far ?_ NB243_259.out _; (with_reducible repeat (first | refine blk_drewN ?_ _ | refine blk_drew ?_ | refine blk_alloc ?_ _)); exact BK243.out) Tryd.underlying72 rfl (by kernel_rfl)) rfl ?_
    exact ⟨(.slice none 0 0), by first | rfl | (simp [errW_none, errW_some] <;> rfl) | (simp [*, errW_none, errW_some] <;> rfl), by first | exact Kd.R_nil _ _ _ _ _ | exact Kd.N_nil _ _ _ _ _ | exact Kd.V_nil _ _ _ _ _ | exact Kd.Q_nil _ _ _ _ _ | exact Kd.S_nil _ _ _ _ _, by repeat (first | (with_reducible first | exact HB.out | apply below_alloc | apply pw_below_drewN | apply below_drew1 | refine below_set ?_ GE243.out | refine below_set ?_ GE259.out) | exact HB.out)⟩
def spec_Leaves.f (a0_0 : Int) (a0_1 : Int) : Option (Int × Int) := if 0 ≤ a0_0 then (some (shl .u64 a0_1 a0_0, shl .u64 (IntKind.u64.wrap (a0_1 + 1)) a0_0)) else (none)
set_option maxHeartbeats 8000000 in
set_option maxRecDepth 100000 in
theorem spec_Leaves.calls (a0_0 : Int) (a0_1 : Int) (r1 : Int) (r2 : Int) (w : World) (h : spec_Leaves.f a0_0 a0_1 = some (r1, r2)) :
    Calls Tryd.prog 41 #[.agg #[.int .u64 a0_0, .int .u64 a0_1]] w fun e w' => e = .returned (.agg #[.int .u64 r1, .int .u64 r2]) ∧ Below w.heap.size w w' := by
  have hu70 := Tryd.underlying70
  have hu34 := Tryd.underlying34
  have HB := Aside0.mk (Below.refl w.heap.size w)
  have H : (if 0 ≤ a0_0 then (some (shl .u64 a0_1 a0_0, shl .u64 (IntKind.u64.wrap (a0_1 + 1)) a0_0)) else (none)) = some (r1, r2) := h
  clear h
  by_cases c2 : 0 ≤ a0_0
  · rw [if_pos c2] at H
    have c2b0 := eq_true c2
    have c2b1 : decide (0 ≤ a0_0) = true := decide_eq_true c2
    clear c2
    obtain ⟨ji3, hji3⟩ : ∃ j_ : Int, (shl .u64 a0_1 a0_0) = j_ := ⟨_, rfl⟩
    replace H : (some (ji3, shl .u64 (IntKind.u64.wrap (a0_1 + 1)) a0_0)) = some (r1, r2) := by first | (rw [hji3] at H; exact H) | (simp only [hji3] at H ⊢; exact H)
    have hji3_ : (IntKind.u64.wrap (a0_1 * 2 ^ min a0_0.toNat 64)) = ji3 := hji3
    have hji3z : a0_0 ≤ 64 → (IntKind.u64.wrap (a0_1 * 2 ^ a0_0.toNat)) = ji3 := shl_small hji3
    have c4b0 := eq_true (of_decide_eq_true (by first | (with_reducible assumption) | assumption) : 0 ≤ a0_0)
    obtain ⟨ji5, hji5⟩ : ∃ j_ : Int, (shl .u64 (IntKind.u64.wrap (a0_1 + 1)) a0_0) = j_ := ⟨_, rfl⟩
    replace H : (some (ji3, ji5)) = some (r1, r2) := by first | (rw [hji5] at H; exact H) | (simp only [hji5] at H ⊢; exact H)
    have hji5_ : (IntKind.u64.wrap ((IntKind.u64.wrap (a0_1 + 1)) * 2 ^ min a0_0.toNat 64)) = ji5 := hji5
    have hji5z : a0_0 ≤ 64 → (IntKind.u64.wrap ((IntKind.u64.wrap (a0_1 + 1)) * 2 ^ a0_0.toNat)) = ji5 := shl_small hji5
    simp only [Option.some.injEq, Prod.mk.injEq] at H
    obtain ⟨rfl, rfl⟩ := H
    go_enter Tryd.func41, Tryd.ntmps41
    go_wp2_with (first | ((with_reducible refine gate_dst (N := 1) rfl ?_); refine box_event ?hg (N := 1) ?hd (cs := #[.int .u64 a0_0, .int .u64 a0_1]) (t := 70) ?hr ?_; (case hd => rfl); (case hg => rfl); (case hr => first | (go_simp; done) | (go_simp; rfl)); intro gb268 hg w6 hbox hb; have n0_ := Aside0.mk (below_step (by repeat (first | (with_reducible first | exact HB.out | apply below_alloc | apply pw_below_drewN | apply below_drew1) | exact HB.out)) hb); have n1_ := Aside0.mk (hbox); have n2_ := Aside0.mk ((by rw [hg]; exact (below_size (by repeat (first | (with_reducible first | exact HB.out | apply below_alloc | apply pw_below_drewN | apply below_drew1) | exact HB.out))) : w.heap.size ≤ gb268)); have n3_ := Aside0.mk ((by rw [hg]; exact (below_size (by repeat (first | (with_reducible first | exact HB.out | apply below_alloc | apply pw_below_drewN | apply below_drew1) | exact HB.out))) : w.heap.size ≤ gb268)); clear HB; have HB := n0_; have BK268 := n1_; have GW268 := n2_; have GE268 := n3_; clear n0_ n1_ n2_ n3_; clear hb hbox hg) | ((with_reducible refine gate_dst (N := 2) rfl ?_); refine box_event ?hg (N := 2) ?hd (cs := #[.int .u64 0, .int .u64 0]) (t := 34) ?hr ?_; (case hd => rfl); (case hg => rfl); (case hr => first | (go_simp; done) | (go_simp; rfl)); intro gb269 hg w7 hbox hb; have n0_ := Aside0.mk (blk_below (g := gb268) (o := .cells #[.int .u64 a0_0, .int .u64 a0_1] 70 (0, 0)) (by (with_reducible repeat (first | refine blk_drewN ?_ _ | refine blk_drew ?_ | refine blk_alloc ?_ _)); exact BK268.out) hb); have n1_ := Aside0.mk (below_step (by repeat (first | (with_reducible first | exact HB.out | apply below_alloc | apply pw_below_drewN | apply below_drew1 | refine below_set ?_ GE268.out) | exact HB.out)) hb); have n2_ := Aside0.mk (hbox); have n3_ := Aside0.mk ((by rw [hg]; exact (below_size (by repeat (first | (with_reducible first | exact HB.out | apply below_alloc | apply pw_below_drewN | apply below_drew1 | refine below_set ?_ GE268.out) | exact HB.out))) : w.heap.size ≤ gb269)); have n4_ := Aside0.mk ((by rw [hg]; exact (below_size (by repeat (first | (with_reducible first | exact HB.out | apply below_alloc | apply pw_below_drewN | apply below_drew1 | refine below_set ?_ GE268.out) | exact HB.out))) : w.heap.size ≤ gb269)); have n5_ := Aside0.mk ((by rw [hg]; exact Nat.ne_of_lt (blk_lt (g := gb268) (o := .cells #[.int .u64 a0_0, .int .u64 a0_1] 70 (0, 0)) (by (with_reducible repeat (first | refine blk_drewN ?_ _ | refine blk_drew ?_ | refine blk_alloc ?_ _)); exact BK268.out)) : gb268 ≠ gb269)); have n6_ := Aside0.mk ((by rw [hg]; exact Nat.ne_of_gt (blk_lt (g := gb268) (o := .cells #[.int .u64 a0_0, .int .u64 a0_1] 70 (0, 0)) (by (with_reducible repeat (first | refine blk_drewN ?_ _ | refine blk_drew ?_ | refine blk_alloc ?_ _)); exact BK268.out)) : gb269 ≠ gb268)); clear BK268; clear HB; have BK268 := n0_; have HB := n1_; have BK269 := n2_; have GW269 := n3_; have GE269 := n4_; have NB268_269 := n5_; have NB269_268 := n6_; clear n0_ n1_ n2_ n3_ n4_ n5_ n6_; clear hb hbox hg; have hnb8 := NB268_269.out; have hnc8 := NB269_268.out; have hcz9_0 : w7.cell? ⟨gb268, 0, none⟩ = some (.int .u64 a0_0) := (blk_cell BK268.out 0).trans rfl; have hcz9_1 : w7.cell? ⟨gb268, 1, none⟩ = some (.int .u64 a0_1) := (blk_cell BK268.out 1).trans rfl; have hfz9_0 := blk_frozen BK268.out 0; have hfz9_1 := blk_frozen BK268.out 1; have hcz10_0 : w7.cell? ⟨gb269, 0, none⟩ = some (.int .u64 0) := (blk_cell BK269.out 0).trans rfl; have hcz10_1 : w7.cell? ⟨gb269, 1, none⟩ = some (.int .u64 0) := (blk_cell BK269.out 1).trans rfl; have hfz10_0 := blk_frozen BK269.out 0; have hfz10_1 := blk_frozen BK269.out 1))
    refine bodyPost_ret (results_cell_row rfl _ _ gb269 34 #[.int .u64 ji3, .int .u64 ji5] (0, 0) _ rfl (by (with_reducible repeat (first | refine blk_drewN ?_ _ | refine blk_drew ?_ | refine blk_alloc ?_ _)); refine blk_put (cs := #[.int .u64 ji3, .int .u64 0]) ?_ 1 _ rfl; (with_reducible repeat (first | refine blk_drewN ?_ _ | refine blk_drew ?_ | refine blk_alloc ?_ _)); refine blk_put (cs := #[.int .u64 0, .int .u64 0]) ?_ 0 _ rfl; (with_reducible repeat (first | refine blk_drewN ?_ _ | refine blk_drew ?_ | refine blk_alloc ?_ _)); exact BK269.out) Tryd.underlying34 rfl (by kernel_rfl)) rfl ?_
    exact ⟨by first | rfl | (simp [errW_none, errW_some] <;> rfl) | (simp only [← hji3, ← hji5]; first | rfl | (simp [errW_none, errW_some] <;> rfl)) | (simp [*, errW_none, errW_some] <;> rfl), by repeat (first | (with_reducible first | exact HB.out | apply below_alloc | apply pw_below_drewN | apply below_drew1 | refine below_set ?_ GE268.out | refine below_set ?_ GE269.out) | exact HB.out)⟩
  · rw [if_neg c2] at H
    exact absurd H (by simp)
end Go.Proofs.YtijldedhcjkhiaaDoor.Y
