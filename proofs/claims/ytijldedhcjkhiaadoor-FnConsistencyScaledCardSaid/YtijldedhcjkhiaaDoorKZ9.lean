import Derived.Test.YtijldedhcjkhiaaDoorKZ0
import Derived.Test.YtijldedhcjkhiaaDoorKZ1
import Derived.Test.YtijldedhcjkhiaaDoorKZ8
namespace Go.Proofs.YtijldedhcjkhiaaDoor.Z
open Go.RowKit Go.Proofs.YtijldedhcjkhiaaDoorW.PrintWords Go.Proofs.YtijldedhcjkhiaaDoorW.PrintLast Go.Proofs.YtijldedhcjkhiaaDoorW.PrintMore
attribute [local go_sem] max2_int min2_int max_two min_two max_three min_three max_four min_four   -- for this text's walks alone
set_option linter.unusedVariables false
set_option linter.unusedSimpArgs false
attribute [local go_sem high] eqA70
def impl_fromNode.f (a0_0 : Int) (a0_1 : Int) : Option (Int × Int) := some (a0_0, a0_1)
set_option maxHeartbeats 8000000 in
set_option maxRecDepth 100000 in
theorem impl_fromNode.calls (a0_0 : Int) (a0_1 : Int) (r1 : Int) (r2 : Int) (w : World) (h : impl_fromNode.f a0_0 a0_1 = some (r1, r2)) :
  Calls Tryd.prog 73 #[.agg #[.int .u64 a0_0, .int .u64 a0_1]] w fun e w' => e = .returned (.agg #[.int .u64 r1, .int .u64 r2]) ∧ Below w.heap.size w w' := by
 have hu107 := Tryd.underlying107
 have hu70 := Tryd.underlying70
 have HB := Aside0.mk (Below.refl w.heap.size w)
 have H : (some (a0_0, a0_1)) = some (r1, r2) := h
 clear h
 simp only [Option.some.injEq, Prod.mk.injEq] at H
 obtain ⟨rfl, rfl⟩ := H
 go_enter Tryd.func73, Tryd.ntmps73
 go_wp2_with (first | ((with_reducible refine gate_dst (N := 1) rfl ?_); refine box_event ?hg (N := 1) ?hd (cs := #[.int .u64 a0_0, .int .u64 a0_1]) (t := 107) ?hr ?_; (case hd => rfl); (case hg => rfl); (case hr => first | (go_simp; done) | (go_simp; rfl)); intro gb486 hg w2 hbox hb; have n0_ := Aside0.mk (below_step (by repeat (first | (with_reducible first | exact HB.out | apply below_alloc | apply pw_below_drewN | apply below_drew1) | exact HB.out)) hb); have n1_ := Aside0.mk (hbox); have n2_ := Aside0.mk ((by rw [hg]; exact (below_size (by repeat (first | (with_reducible first | exact HB.out | apply below_alloc | apply pw_below_drewN | apply below_drew1) | exact HB.out))) : w.heap.size ≤ gb486)); have n3_ := Aside0.mk ((by rw [hg]; exact (below_size (by repeat (first | (with_reducible first | exact HB.out | apply below_alloc | apply pw_below_drewN | apply below_drew1) | exact HB.out))) : w.heap.size ≤ gb486)); clear HB; have HB := n0_; have BK486 := n1_; have GW486 := n2_; have GE486 := n3_; clear n0_ n1_ n2_ n3_; clear hb hbox hg) | ((with_reducible refine gate_dst (N := 2) rfl ?_); refine box_event ?hg (N := 2) ?hd (cs := #[.int .u64 0, .int .u64 0]) (t := 70) ?hr ?_; (case hd => rfl); (case hg => rfl); (case hr => first | (go_simp; done) | (go_simp; rfl)); intro gb487 hg w3 hbox hb; have n0_ := Aside0.mk (blk_below (g := gb486) (o := .cells #[.int .u64 a0_0, .int .u64 a0_1] 107 (0, 0)) (by (with_reducible repeat (first | refine blk_drewN ?_ _ | refine blk_drew ?_ | refine blk_alloc ?_ _)); exact BK486.out) hb); have n1_ := Aside0.mk (below_step (by repeat (first | (with_reducible first | exact HB.out | apply below_alloc | apply pw_below_drewN | apply below_drew1 | refine below_set ?_ GE486.out) | exact HB.out)) hb); have n2_ := Aside0.mk (hbox); have n3_ := Aside0.mk ((by rw [hg]; exact (below_size (by repeat (first | (with_reducible first | exact HB.out | apply below_alloc | apply pw_below_drewN | apply below_drew1 | refine below_set ?_ GE486.out) | exact HB.out))) : w.heap.size ≤ gb487)); have n4_ := Aside0.mk ((by rw [hg]; exact (below_size (by repeat (first | (with_reducible first | exact HB.out | apply below_alloc | apply pw_below_drewN | apply below_drew1 | refine below_set ?_ GE486.out) | exact HB.out))) : w.heap.size ≤ gb487)); have n5_ := Aside0.mk ((by rw [hg]; exact Nat.ne_of_lt (blk_lt (g := gb486) (o := .cells #[.int .u64 a0_0, .int .u64 a0_1] 107 (0, 0)) (by (with_reducible repeat (first | refine blk_drewN ?_ _ | refine blk_drew ?_ | refine blk_alloc ?_ _)); exact BK486.out)) : gb486 ≠ gb487)); have n6_ := Aside0.mk ((by rw [hg]; exact Nat.ne_of_gt (blk_lt (g := gb486) (o := .cells #[.int .u64 a0_0, .int .u64 a0_1] 107 (0, 0)) (by (with_reducible repeat (first | refine blk_drewN ?_ _ | refine blk_drew ?_ | refine blk_alloc ?_ _)); exact BK486.out)) : gb487 ≠ gb486)); clear BK486; clear HB; have BK486 := n0_; have HB := n1_; have BK487 := n2_; have GW487 := n3_; have GE487 := n4_; have NB486_487 := n5_; have NB487_486 := n6_; clear n0_ n1_ n2_ n3_ n4_ n5_ n6_; clear hb hbox hg; have hnb4 := NB486_487.out; have hnc4 := NB487_486.out; have hcz5_0 : w3.cell? ⟨gb486, 0, none⟩ = some (.int .u64 a0_0) := (blk_cell BK486.out 0).trans rfl; have hcz5_1 : w3.cell? ⟨gb486, 1, none⟩ = some (.int .u64 a0_1) := (blk_cell BK486.out 1).trans rfl; have hfz5_0 := blk_frozen BK486.out 0; have hfz5_1 := blk_frozen BK486.out 1; have hcz6_0 : w3.cell? ⟨gb487, 0, none⟩ = some (.int .u64 0) := (blk_cell BK487.out 0).trans rfl; have hcz6_1 : w3.cell? ⟨gb487, 1, none⟩ = some (.int .u64 0) := (blk_cell BK487.out 1).trans rfl; have hfz6_0 := blk_frozen BK487.out 0; have hfz6_1 := blk_frozen BK487.out 1))
 refine bodyPost_ret (results_cell_row rfl _ _ gb487 70 #[.int .u64 a0_0, .int .u64 a0_1] (0, 0) _ rfl (by (with_reducible repeat (first | refine blk_drewN ?_ _ | refine blk_drew ?_ | refine blk_alloc ?_ _)); refine blk_put (cs := #[.int .u64 a0_0, .int .u64 0]) ?_ 1 _ rfl; (with_reducible repeat (first | refine blk_drewN ?_ _ | refine blk_drew ?_ | refine blk_alloc ?_ _)); refine blk_put (cs := #[.int .u64 0, .int .u64 0]) ?_ 0 _ rfl; (with_reducible repeat (first | refine blk_drewN ?_ _ | refine blk_drew ?_ | refine blk_alloc ?_ _)); exact BK487.out) Tryd.underlying70 rfl (by kernel_rfl)) rfl ?_
 exact ⟨by first | rfl | (simp [errW_none, errW_some] <;> rfl) | (simp [*, errW_none, errW_some] <;> rfl), by repeat (first | (with_reducible first | exact HB.out | apply below_alloc | apply pw_below_drewN | apply below_drew1 | refine below_set ?_ GE486.out | refine below_set ?_ GE487.out) | exact HB.out)⟩
def impl_fromNodes.l0 : Nat → List (S70) → List (S107) → Int → Int → Option ((List (S70)))
 | 0, _, _, _, _ => none
 | k + 1, x3, x6, x7, x8 => if x8 < x7 then (if 0 ≤ x8 then (if x8 < (x6.length : Int) then ((impl_fromNode.f ((rd_T107 x6 x8).f0) ((rd_T107 x6 x8).f1)).bind fun bt490 => (if x3.length < 8796093022208 then (impl_fromNodes.l0 k (x3 ++ [(⟨bt490.1, bt490.2⟩ : S70)]) x6 x7 (wrap64 (x8 + 1))) else (none))) else (none)) else (none)) else (some x3)
def impl_fromNodes.f (k : Nat) (l0 : List (S107)) : Option ((List (S70))) := impl_fromNodes.l0 k ([] : List (S70)) l0 (l0.length : Int) 0
theorem impl_fromNodes.mono_l : ∀ k, (∀ y0 y1 y2 y3, LeO (impl_fromNodes.l0 k y0 y1 y2 y3) (impl_fromNodes.l0 (k + 1) y0 y1 y2 y3))
 | 0 => fun _ _ _ _ r h => by simp [impl_fromNodes.l0] at h
 | k + 1 => by
  have ih0 := impl_fromNodes.mono_l k
  ·intro y0 y1 y2 y3
   unfold impl_fromNodes.l0
   repeat' first
   | (with_reducible exact ih0 _ _ _ _)
   | (with_reducible exact LeO.refl _)
   | (with_reducible exact LeO.none _)
   | (with_reducible refine LeO.ite ?_ ?_)
   | (with_reducible refine LeO.bind ?_ (fun _ => ?_))
   | exact ih0 _ _ _ _
   | exact LeO.none _
   | refine LeO.ite ?_ ?_
   | refine LeO.bind ?_ (fun _ => ?_)
theorem impl_fromNodes.mono : ∀ a0 k, LeO (impl_fromNodes.f k a0) (impl_fromNodes.f (k + 1) a0) := by
 intro a0 k
 have ih0 := impl_fromNodes.mono_l k
 unfold impl_fromNodes.f
 repeat' first
   | (with_reducible exact ih0 _ _ _ _)
   | (with_reducible exact LeO.refl _)
   | (with_reducible exact LeO.none _)
   | (with_reducible refine LeO.ite ?_ ?_)
   | (with_reducible refine LeO.bind ?_ (fun _ => ?_))
   | exact ih0 _ _ _ _
   | exact LeO.none _
   | refine LeO.ite ?_ ?_
   | refine LeO.bind ?_ (fun _ => ?_)
set_option maxHeartbeats 8000000 in
set_option maxRecDepth 100000 in
theorem impl_fromNodes.calls (k : Nat) (A0 : Option Addr) (c0 : Nat) (l0 : List (S107)) (r : List (S70)) (w : World) (hr0 : Kd.C k107 w A0 l0.length l0) (hc0 : l0.length ≤ c0) (h : impl_fromNodes.f k l0 = some r) :
  Calls Tryd.prog 64 #[.slice A0 l0.length c0] w fun e w' => ∃ v0_ : Value, e = .returned (v0_) ∧ Kd.R k70 70 w' w.heap.size (fun _ => True) v0_ r ∧ Below w.heap.size w w' := by
 have hu107 := Tryd.underlying107
 have HR0 := Aside0.mk hr0
 have HC0 := Aside0.mk hc0
 clear hr0 hc0
 have HB := Aside0.mk (Below.refl w.heap.size w)
 have H : (impl_fromNodes.l0 k ([] : List (S70)) l0 (l0.length : Int) 0) = some r := h
 clear h
 have H' := Aside0.mk H
 clear H
 go_enter Tryd.func64, Tryd.ntmps64
 go_wp2
 try simp only [Act.put, List.setIfInBounds_toArray, List.set_cons_zero, List.set_cons_succ]
 go_loopg [3, 8] k (fun kq v3 v8 w' => ∃ (x3_1 : List (S70)) (x8_1 : Int), v8 = .int .i64 x8_1 ∧ Aside0 (impl_fromNodes.l0 kq x3_1 l0 (l0.length : Int) x8_1 = some r) ∧ Aside0 (kq ≤ k) ∧ Aside0 (Kd.R k70 70 w' w.heap.size (fun _ => True) v3 x3_1) ∧ Aside0 (Below w.heap.size w w'))
 case atStart => exact ⟨(([] : List (S70))), (0), (by first | rfl | (simp; done) | (simp [*]; done)), H', ⟨Nat.le_refl _⟩, ⟨by first | exact Kd.R_nil _ _ _ _ _ | exact Kd.N_nil _ _ _ _ _ | exact Kd.V_nil _ _ _ _ _ | exact Kd.Q_nil _ _ _ _ _ | exact Kd.S_nil _ _ _ _ _⟩, ⟨by repeat (first | (with_reducible first | exact HB.out | apply below_alloc | apply pw_below_drewN | apply below_drew1) | exact HB.out)⟩⟩
 case round =>
  clear H'
  obtain ⟨x3_1, x8_1, rfl, HA, HK1, HO_3, HB⟩ := hrel
  cases gk with
  | zero => exact absurd HA.out (by simp [impl_fromNodes.l0])
  | succ k1 =>
   have H := HA.out
   clear HA
   simp only [impl_fromNodes.l0] at H
   by_cases c2 : x8_1 < (l0.length : Int)
   ·rw [if_pos c2] at H
    have c2b0 : decide (x8_1 < (l0.length : Int)) = true := decide_eq_true c2
    clear c2
    by_cases c3 : 0 ≤ x8_1
    ·rw [if_pos c3] at H
     have c3b0 : decide (0 ≤ x8_1) = true := decide_eq_true c3
     clear c3
     by_cases c4 : x8_1 < (l0.length : Int)
     ·rw [if_pos c4] at H
      have c4b0 : decide (x8_1 < (l0.length : Int)) = true := decide_eq_true c4
      clear c4
      replace H := Option.bind_eq_some_iff.mp H
      obtain ⟨⟨t490, t491⟩, A50, H⟩ := H
      replace H : (if x3_1.length < 8796093022208 then (impl_fromNodes.l0 k1 (x3_1 ++ [(⟨t490, t491⟩ : S70)]) l0 (l0.length : Int) (wrap64 (x8_1 + 1))) else (none)) = some r := H
      have A5 := Aside0.mk A50
      clear A50
      by_cases c6 : x3_1.length < 8796093022208
      ·rw [if_pos c6] at H
       have LMc6 := Aside0.mk c6
       clear c6
       obtain ⟨y492, hy492⟩ : ∃ y_ : List (S70), y_ = (x3_1 ++ [(⟨t490, t491⟩ : S70)]) := ⟨_, rfl⟩
       replace H : (impl_fromNodes.l0 k1 y492 l0 (l0.length : Int) (wrap64 (x8_1 + 1))) = some r := by first | (rw [hy492]; with_reducible exact H) | (have H2_ := (Option.bind_some _ _).symm.trans H; rw [hy492]; with_reducible exact H2_) | (have H2_ := (Option.bind_some _ _).symm.trans H; with_reducible exact H2_) | with_reducible exact H | (rw [hy492]; exact H) | exact H
       have Ny492 := Aside0.mk hy492
       clear hy492
       have H' := Aside0.mk H
       clear H
       have p488 : 0 ≤ (x8_1 : Int) := of_decide_eq_true (by first | (with_reducible assumption) | assumption)
       have q488 : x8_1 < (l0.length : Int) := of_decide_eq_true (by first | (with_reducible assumption) | assumption)
       obtain ⟨ad488, e488, hx488_0, hx488_1⟩ := at_T107 HR0.out x8_1 p488 q488
       cases e488
       (try replace hx488_0 := (HB.out.cell (World.block_lt_of_cell? w _ hx488_0)).trans hx488_0)
       (try replace hx488_1 := (HB.out.cell (World.block_lt_of_cell? w _ hx488_1)).trans hx488_1)
       replace p488 := eq_true p488
       replace q488 := eq_true q488
       go_wp2_with (first | ((with_reducible refine gate_dst (N := 5) rfl ?_); refine box_event ?hg (N := 5) ?hd (cs := #[.int .u64 0, .int .u64 0]) (t := 107) ?hr ?_; (case hd => rfl); (case hg => rfl); (case hr => first | (go_simp; done) | (go_simp; rfl)); intro gb489 hg w7 hbox hb; have n0_ := Aside0.mk (Kd.R_below (by (with_reducible repeat (first | apply Kd.R_alloc | apply Kd.R_drewN | apply Kd.R_drew)); exact HO_3.out) hb); have n1_ := Aside0.mk (below_step (by repeat (first | (with_reducible first | exact HB.out | apply below_alloc | apply pw_below_drewN | apply below_drew1) | exact HB.out)) hb); have n2_ := Aside0.mk (hbox); have n3_ := Aside0.mk ((by rw [hg]; exact (below_size (by repeat (first | (with_reducible first | exact HB.out | apply below_alloc | apply pw_below_drewN | apply below_drew1) | exact HB.out))) : w.heap.size ≤ gb489)); have n4_ := Aside0.mk ((by rw [hg]; exact (below_size (by repeat (first | (with_reducible first | exact HB.out | apply below_alloc | apply pw_below_drewN | apply below_drew1) | exact HB.out))) : w.heap.size ≤ gb489)); clear HO_3; clear HB; have HO_3 := n0_; have HB := n1_; have BK489 := n2_; have GW489 := n3_; have GE489 := n4_; clear n0_ n1_ n2_ n3_ n4_; clear hb hbox hg; have hcz8_0 : w7.cell? ⟨gb489, 0, none⟩ = some (.int .u64 0) := (blk_cell BK489.out 0).trans rfl; have hcz8_1 : w7.cell? ⟨gb489, 1, none⟩ = some (.int .u64 0) := (blk_cell BK489.out 1).trans rfl; have hfz8_0 := blk_frozen BK489.out 0; have hfz8_1 := blk_frozen BK489.out 1) | ((with_reducible refine gate_callee (f := 73) rfl ?_); refine goesL_ (some 14) rfl rfl Tryd.func73 (by kernel_rfl) rfl #[.agg #[.int .u64 ((rd_T107 l0 x8_1).f0), .int .u64 ((rd_T107 l0 x8_1).f1)]] rfl (by (try simp only [List.map_toArray, List.map_cons, List.map_nil]); first | done | rfl | (simp only [List.length_drop, List.length_take]; rfl)) ?_; (with_reducible refine (impl_fromNode.calls ((rd_T107 l0 x8_1).f0) ((rd_T107 l0 x8_1).f1) t490 t491 _ A5.out).mono ?_); rintro e w9 ⟨rfl, hb⟩; refine ⟨_, rfl, ?_⟩; have n0_ := Aside0.mk (Kd.R_below (by (with_reducible repeat (first | apply Kd.R_alloc | apply Kd.R_drewN | apply Kd.R_drew)); exact (Kd.R_mono (Kd.R_far (p := ⟨gb489, 1, none⟩) (Kd.R_far (p := ⟨gb489, 0, none⟩) (Kd.R_types HO_3.out BK489.out (by decide)) (fun _ hk => hk.2) (.int .u64 ((rd_T107 l0 x8_1).f0))) (fun _ hk => hk.2) (.int .u64 ((rd_T107 l0 x8_1).f1))) (fun _ h_ => h_.1))) hb); have n1_ := Aside0.mk (blk_below (g := gb489) (o := .cells #[.int .u64 ((rd_T107 l0 x8_1).f0), .int .u64 ((rd_T107 l0 x8_1).f1)] 107 (0, 0)) (by (with_reducible repeat (first | refine blk_drewN ?_ _ | refine blk_drew ?_ | refine blk_alloc ?_ _)); refine blk_put (cs := #[.int .u64 ((rd_T107 l0 x8_1).f0), .int .u64 0]) ?_ 1 _ rfl; (with_reducible repeat (first | refine blk_drewN ?_ _ | refine blk_drew ?_ | refine blk_alloc ?_ _)); refine blk_put (cs := #[.int .u64 0, .int .u64 0]) ?_ 0 _ rfl; (with_reducible repeat (first | refine blk_drewN ?_ _ | refine blk_drew ?_ | refine blk_alloc ?_ _)); exact BK489.out) hb); have n2_ := Aside0.mk (below_step (by repeat (first | (with_reducible first | exact HB.out | apply below_alloc | apply pw_below_drewN | apply below_drew1 | refine below_set ?_ GE489.out) | exact HB.out)) hb); clear HO_3; clear BK489; clear HB; have HO_3 := n0_; have BK489 := n1_; have HB := n2_; clear n0_ n1_ n2_; (try clear hb); (try clear hb2); (try clear hk); (try clear hi)) | ((with_reducible refine gate_builtin (b := .append) (xs := #[.tmp 12, .tmp 15]) rfl ?_); at_builtin; refine Kd.R_append k70 (w0 := w) w.heap.size rfl (.tmp 12) (.tmp 15) 29 70 (.agg #[(.int .u64 0), (.int .u64 0)]) 16 rfl Tryd.underlying29 info70 rfl (by decide) (by omega) u3 x3_1 (⟨t490, t491⟩ : S70) [.int .u64 t490, .int .u64 t491] (fun _ => True) (fun _ => False) rfl rfl ?aP (fun _ hk => hk.elim) ?aF ?aO ?aB ?aS ?aL ?_; (case aP => exact k70_mkM _ _ _ (⟨t490, t491⟩ : S70)); (case aB => exact (by repeat (first | (with_reducible first | exact HB.out | apply below_alloc | apply pw_below_drewN | apply below_drew1 | refine below_set ?_ GE489.out) | exact HB.out))); (case aF => exact (fun _ _ => trivial)); (case aO => exact (by (with_reducible repeat (first | apply Kd.R_alloc | apply Kd.R_drewN | apply Kd.R_drew)); exact HO_3.out)); (case aS => exact (below_size (by repeat (first | (with_reducible first | exact HB.out | apply below_alloc | apply pw_below_drewN | apply below_drew1 | refine below_set ?_ GE489.out) | exact HB.out)))); (case aL => have := LMc6.out; omega); intro v493 w10 ho hb hg hat; rw [← Ny492.out] at ho; have n0_ := Aside0.mk (blk_grown (g := gb489) (o := .cells #[.int .u64 ((rd_T107 l0 x8_1).f0), .int .u64 ((rd_T107 l0 x8_1).f1)] 107 (0, 0)) (by (with_reducible repeat (first | refine blk_drewN ?_ _ | refine blk_drew ?_ | refine blk_alloc ?_ _)); exact BK489.out) hg (Kd.R_ne HO_3.out BK489.out (by decide))); have n1_ := Aside0.mk (hb); have n2_ := Aside0.mk (ho); clear BK489; clear HB; clear HO_3; have BK489 := n0_; have HB := n1_; have HO494 := n2_; clear n0_ n1_ n2_; clear ho hb hg hat))
       go_roundg k1
       case measure => have := HK1.out; omega
       case rel => exact ⟨(y492), (wrap64 (x8_1 + 1)), (by first | rfl | (simp; done) | (simp [*]; done)), H', ⟨by have := HK1.out; omega⟩, ⟨by (with_reducible repeat (first | apply Kd.R_alloc | apply Kd.R_drewN | apply Kd.R_drew)); exact HO494.out⟩, ⟨by repeat (first | (with_reducible first | exact HB.out | apply below_alloc | apply pw_below_drewN | apply below_drew1 | refine below_set ?_ GE489.out) | exact HB.out)⟩⟩
      ·rw [if_neg c6] at H
       exact absurd H (by simp)
     ·rw [if_neg c4] at H
      exact absurd H (by simp)
    ·rw [if_neg c3] at H
     exact absurd H (by simp)
   ·rw [if_neg c2] at H
    have c2b0 : decide (x8_1 < (l0.length : Int)) = false := decide_eq_false c2
    clear c2
    obtain rfl := Option.some.inj H
    go_wp2
    go_ret
    exact ⟨_, by first | rfl | (simp [errW_none, errW_some] <;> rfl) | (simp [*, errW_none, errW_some] <;> rfl), by (with_reducible repeat (first | apply Kd.R_alloc | apply Kd.R_drewN | apply Kd.R_drew)); exact HO_3.out, by repeat (first | (with_reducible first | exact HB.out | apply below_alloc | apply pw_below_drewN | apply below_drew1) | exact HB.out)⟩
def proof_Nodes_Ephem.f (l0_0 : List (S107)) (a0_1 : Int) (a0_2 : Int) (a0_3 : Int) (a0_4 : Int) : Option (Int × Int × Int × Int) := some (a0_3, a0_4, a0_1, a0_2)
def proof_Nodes_Ephem.T1 : Bool × List (List Nat × List Nat) := (true, [([], []), ([0], [0]), ([], []), ([2], [2]), ([], []), ([4], [4]), ([1, 0, 1], [1]), ([3, 6, 0, 1, 2, 3, 6], [3]), ([5, 7, 0, 1, 2, 3, 4, 5, 6, 7], [5])])
def proof_Nodes_Ephem.B1 : List Nat := [0, 1, 0, 4, 0, 16, 3, 79, 255]
theorem proof_Nodes_Ephem.tab1 : rtab .any (opsOf Tryd.f127 1) = proof_Nodes_Ephem.T1 := by kernel_rfl
theorem proof_Nodes_Ephem.bits1 : waitsOk proof_Nodes_Ephem.T1.2 proof_Nodes_Ephem.B1 = true := by kernel_rfl
set_option maxHeartbeats 8000000 in
set_option maxRecDepth 100000 in
theorem proof_Nodes_Ephem.calls (A0_0 : Option Addr) (c0_0 : Nat) (l0_0 : List (S107)) (a0_1 : Int) (a0_2 : Int) (a0_3 : Int) (a0_4 : Int) (r1 : Int) (r2 : Int) (r3 : Int) (r4 : Int) (w : World) (hr0_0 : Kd.C k107 w A0_0 l0_0.length l0_0) (hc0_0 : l0_0.length ≤ c0_0) (h : proof_Nodes_Ephem.f l0_0 a0_1 a0_2 a0_3 a0_4 = some (r1, r2, r3, r4)) :
  Calls Tryd.prog 127 #[.agg #[.slice A0_0 l0_0.length c0_0, .int .i64 a0_1, .int .i64 a0_2, .int .u64 a0_3, .int .u64 a0_4]] w fun e w' => e = .returned (.tuple #[.agg #[.int .u64 r1, .int .u64 r2], .int .i64 r3, .int .i64 r4]) ∧ Below w.heap.size w w' := by
 have hu146 := Tryd.underlying146
 have hu107 := Tryd.underlying107
 have HR0_0 := Aside0.mk hr0_0
 have HC0_0 := Aside0.mk hc0_0
 clear hr0_0 hc0_0
 have HB := Aside0.mk (Below.refl w.heap.size w)
 have H : (some (a0_3, a0_4, a0_1, a0_2)) = some (r1, r2, r3, r4) := h
 clear h
 simp only [Option.some.injEq, Prod.mk.injEq] at H
 obtain ⟨rfl, rfl, rfl, rfl⟩ := H
 go_enter Tryd.func127, Tryd.ntmps127
 try go_wp2_with (first | ((with_reducible refine gate_dst (N := 1) rfl ?_); refine box_event ?hg (N := 1) ?hd (cs := #[.slice A0_0 l0_0.length c0_0, .int .i64 a0_1, .int .i64 a0_2, .int .u64 a0_3, .int .u64 a0_4]) (t := 146) ?hr ?_; (case hd => rfl); (case hg => rfl); (case hr => first | (go_simp; done) | (go_simp; rfl)); intro gb495 hg w2 hbox hb; have n0_ := Aside0.mk (below_step (by repeat (first | (with_reducible first | exact HB.out | apply below_alloc | apply pw_below_drewN | apply below_drew1) | exact HB.out)) hb); have n1_ := Aside0.mk (hbox); have n2_ := Aside0.mk ((by rw [hg]; exact (below_size (by repeat (first | (with_reducible first | exact HB.out | apply below_alloc | apply pw_below_drewN | apply below_drew1) | exact HB.out))) : w.heap.size ≤ gb495)); have n3_ := Aside0.mk ((by rw [hg]; exact (below_size (by repeat (first | (with_reducible first | exact HB.out | apply below_alloc | apply pw_below_drewN | apply below_drew1) | exact HB.out))) : w.heap.size ≤ gb495)); clear HB; have HB := n0_; have BK495 := n1_; have GW495 := n2_; have GE495 := n3_; clear n0_ n1_ n2_ n3_; clear hb hbox hg) | ((with_reducible refine gate_dst (N := 2) rfl ?_); refine box_event ?hg (N := 2) ?hd (cs := #[.int .u64 0, .int .u64 0]) (t := 107) ?hr ?_; (case hd => rfl); (case hg => rfl); (case hr => first | (go_simp; done) | (go_simp; rfl)); intro gb496 hg w3 hbox hb; have n0_ := Aside0.mk (blk_below (g := gb495) (o := .cells #[.slice A0_0 l0_0.length c0_0, .int .i64 a0_1, .int .i64 a0_2, .int .u64 a0_3, .int .u64 a0_4] 146 (0, 0)) (by (with_reducible repeat (first | refine blk_drewN ?_ _ | refine blk_drew ?_ | refine blk_alloc ?_ _)); exact BK495.out) hb); have n1_ := Aside0.mk (below_step (by repeat (first | (with_reducible first | exact HB.out | apply below_alloc | apply pw_below_drewN | apply below_drew1 | refine below_set ?_ GE495.out) | exact HB.out)) hb); have n2_ := Aside0.mk (hbox); have n3_ := Aside0.mk ((by rw [hg]; exact (below_size (by repeat (first | (with_reducible first | exact HB.out | apply below_alloc | apply pw_below_drewN | apply below_drew1 | refine below_set ?_ GE495.out) | exact HB.out))) : w.heap.size ≤ gb496)); have n4_ := Aside0.mk ((by rw [hg]; exact (below_size (by repeat (first | (with_reducible first | exact HB.out | apply below_alloc | apply pw_below_drewN | apply below_drew1 | refine below_set ?_ GE495.out) | exact HB.out))) : w.heap.size ≤ gb496)); have n5_ := Aside0.mk ((by rw [hg]; exact Nat.ne_of_lt (blk_lt (g := gb495) (o := .cells #[.slice A0_0 l0_0.length c0_0, .int .i64 a0_1, .int .i64 a0_2, .int .u64 a0_3, .int .u64 a0_4] 146 (0, 0)) (by (with_reducible repeat (first | refine blk_drewN ?_ _ | refine blk_drew ?_ | refine blk_alloc ?_ _)); exact BK495.out)) : gb495 ≠ gb496)); have n6_ := Aside0.mk ((by rw [hg]; exact Nat.ne_of_gt (blk_lt (g := gb495) (o := .cells #[.slice A0_0 l0_0.length c0_0, .int .i64 a0_1, .int .i64 a0_2, .int .u64 a0_3, .int .u64 a0_4] 146 (0, 0)) (by (with_reducible repeat (first | refine blk_drewN ?_ _ | refine blk_drew ?_ | refine blk_alloc ?_ _)); exact BK495.out)) : gb496 ≠ gb495)); clear BK495; clear HB; have BK495 := n0_; have HB := n1_; have BK496 := n2_; have GW496 := n3_; have GE496 := n4_; have NB495_496 := n5_; have NB496_495 := n6_; clear n0_ n1_ n2_ n3_ n4_ n5_ n6_; clear hb hbox hg))
 have n0_ := Aside0.mk (blk_drew BK495.out)
 have n1_ := Aside0.mk (blk_drew BK496.out)
 have n2_ := Aside0.mk (below_drew1 HB.out)
 clear BK495
 clear BK496
 clear HB
 have BK495 := n0_
 have BK496 := n1_
 have HB := n2_
 clear n0_ n1_ n2_
 refine start_ (n := 9) (S := fun w' => w'.cell? ⟨gb495, 0, none⟩ = some (.slice A0_0 l0_0.length c0_0) ∧ w'.cell? ⟨gb495, 1, none⟩ = some (.int .i64 a0_1) ∧ w'.cell? ⟨gb495, 2, none⟩ = some (.int .i64 a0_2) ∧ w'.cell? ⟨gb495, 3, none⟩ = some (.int .u64 a0_3) ∧ w'.cell? ⟨gb495, 4, none⟩ = some (.int .u64 a0_4)) (ds := []) #[false, false, false, false, false, false, false, false, false] (by kernel_rfl) rfl rfl ⟨(blk_cell BK495.out 0).trans rfl, (blk_cell BK495.out 1).trans rfl, (blk_cell BK495.out 2).trans rfl, (blk_cell BK495.out 3).trans rfl, (blk_cell BK495.out 4).trans rfl⟩ (fun hHeld => ?_); refine with_tabW proof_Nodes_Ephem.tab1 proof_Nodes_Ephem.bits1 (fun HT_ HW_ => ?_)
 generalize w3.drew = w4 at BK495 BK496 HB hHeld ⊢
 refine pure_ (i := 0) (N := some 5) (v := ?_) (a' := ?_) #[true, false, false, false, false, false, false, false, false] rfl rfl (any_of HT_.out (by kernel_rfl)) (fun _ _ _ h => h) (Or.inl ⟨by rfl, ?_⟩) ?_ ?_
 rotate_left
 ·intro w'
  go_simp
  with_reducible rfl
 rotate_left
 ·simp only [Act.put, List.setIfInBounds_toArray, List.set_cons_zero, List.set_cons_succ, i64_w, i32_w]
  rfl
 refine pure_ (i := 2) (N := some 7) (v := ?_) (a' := ?_) #[true, false, true, false, false, false, false, false, false] rfl rfl (any_of HT_.out (by kernel_rfl)) (fun _ _ _ h => h) (Or.inl ⟨by rfl, ?_⟩) ?_ ?_
 rotate_left
 ·intro w'
  go_simp
  with_reducible rfl
 rotate_left
 ·simp only [Act.put, List.setIfInBounds_toArray, List.set_cons_zero, List.set_cons_succ, i64_w, i32_w]
  rfl
 refine pure_ (i := 4) (N := some 9) (v := ?_) (a' := ?_) #[true, false, true, false, true, false, false, false, false] rfl rfl (any_of HT_.out (by kernel_rfl)) (fun _ _ _ h => h) (Or.inl ⟨by rfl, ?_⟩) ?_ ?_
 rotate_left
 ·intro w'
  go_simp
  with_reducible rfl
 rotate_left
 ·simp only [Act.put, List.setIfInBounds_toArray, List.set_cons_zero, List.set_cons_succ, i64_w, i32_w]
  rfl
 refine take_ (i := 1) (N := some 6) (v := ?_) (a' := ?_) #[true, true, true, false, true, false, false, false, false] rfl rfl (take_ofW HT_.out HW_.out (by kernel_rfl)) (fun _ _ _ h => h) (Or.inl ⟨by rfl, ?_⟩) hHeld ?_ ?_
 rotate_left
 ·rintro w' ⟨s0, s1, s2, s3, s4⟩
  go_simp
  with_reducible rfl
 rotate_left
 ·simp only [Act.put, List.setIfInBounds_toArray, List.set_cons_zero, List.set_cons_succ, i64_w, i32_w]
  rfl
 refine take_ (i := 3) (N := some 8) (v := ?_) (a' := ?_) #[true, true, true, true, true, false, false, false, false] rfl rfl (take_ofW HT_.out HW_.out (by kernel_rfl)) (fun _ _ _ h => h) (Or.inl ⟨by rfl, ?_⟩) hHeld ?_ ?_
 rotate_left
 ·rintro w' ⟨s0, s1, s2, s3, s4⟩
  go_simp
  with_reducible rfl
 rotate_left
 ·simp only [Act.put, List.setIfInBounds_toArray, List.set_cons_zero, List.set_cons_succ, i64_w, i32_w]
  rfl
 refine take_ (i := 5) (N := some 10) (v := ?_) (a' := ?_) #[true, true, true, true, true, true, false, false, false] rfl rfl (take_ofW HT_.out HW_.out (by kernel_rfl)) (fun _ _ _ h => h) (Or.inl ⟨by rfl, ?_⟩) hHeld ?_ ?_
 rotate_left
 ·rintro w' ⟨s0, s1, s2, s3, s4⟩
  go_simp
  with_reducible rfl
 rotate_left
 ·simp only [Act.put, List.setIfInBounds_toArray, List.set_cons_zero, List.set_cons_succ, i64_w, i32_w]
  rfl
 refine one_ (i := 6) (N := none) #[true, true, true, true, true, true, true, false, false] rfl rfl (one_of HT_.out (by kernel_rfl)) (by decide) (fun K hK => ?_)
 have hs5 : w4.cell? ⟨gb496, 0, none⟩ = some (.int .u64 0) := (blk_cell BK496.out 0).trans rfl
 have hfs5 := blk_frozen BK496.out 0
 have hns5_0 := NB495_496.out
 have hms5_0 := NB496_495.out
 have hs6 : w4.cell? ⟨gb496, 1, none⟩ = some (.int .u64 0) := (blk_cell BK496.out 1).trans rfl
 have hfs6 := blk_frozen BK496.out 1
 have hns6_0 := NB495_496.out
 have hms6_0 := NB496_495.out
 refine skip_ (w1 := ?_) (by rfl) rfl ?_ ?_
 rotate_left
 ·go_simp
  rfl
 refine hK.out _ _ ⟨((cell_far (p := ⟨gb496, _, none⟩) NB495_496.out _).trans (((cell_far (p := ⟨gb496, _, none⟩) NB495_496.out _).trans (hHeld.1)))), ((cell_far (p := ⟨gb496, _, none⟩) NB495_496.out _).trans (((cell_far (p := ⟨gb496, _, none⟩) NB495_496.out _).trans (hHeld.2.1)))), ((cell_far (p := ⟨gb496, _, none⟩) NB495_496.out _).trans (((cell_far (p := ⟨gb496, _, none⟩) NB495_496.out _).trans (hHeld.2.2.1)))), ((cell_far (p := ⟨gb496, _, none⟩) NB495_496.out _).trans (((cell_far (p := ⟨gb496, _, none⟩) NB495_496.out _).trans (hHeld.2.2.2.1)))), ((cell_far (p := ⟨gb496, _, none⟩) NB495_496.out _).trans (((cell_far (p := ⟨gb496, _, none⟩) NB495_496.out _).trans (hHeld.2.2.2.2))))⟩ (fun hHeld => ?_)
 clear hK K
 refine pure_ (i := 7) (N := some 3) (v := ?_) (a' := ?_) #[true, true, true, true, true, true, true, true, false] rfl rfl (any_of HT_.out (by kernel_rfl)) (fun _ _ _ h => h) (Or.inl ⟨by rfl, ?_⟩) ?_ ?_
 rotate_left
 ·intro w'
  go_simp
  with_reducible rfl
 rotate_left
 ·simp only [Act.put, List.setIfInBounds_toArray, List.set_cons_zero, List.set_cons_succ, i64_w, i32_w]
  rfl
 refine pure_ (i := 8) (N := some 4) (v := ?_) (a' := ?_) #[true, true, true, true, true, true, true, true, true] rfl rfl (any_of HT_.out (by kernel_rfl)) (fun _ _ _ h => h) (Or.inl ⟨by rfl, ?_⟩) ?_ ?_
 rotate_left
 ·intro w'
  go_simp
  with_reducible rfl
 rotate_left
 ·simp only [Act.put, List.setIfInBounds_toArray, List.set_cons_zero, List.set_cons_succ, i64_w, i32_w]
  rfl
 refine done_ (done_of HT_.out (by kernel_rfl)) ?_
 try go_wp2
 refine bodyPost_ret (results_ctt rfl _ _ gb496 107 #[.int .u64 a0_3, .int .u64 a0_4] (0, 0) _ rfl (by (with_reducible repeat (first | refine blk_drewN ?_ _ | refine blk_drew ?_ | refine blk_alloc ?_ _)); refine blk_put (cs := #[.int .u64 a0_3, .int .u64 0]) ?_ 1 _ rfl; (with_reducible repeat (first | refine blk_drewN ?_ _ | refine blk_drew ?_ | refine blk_alloc ?_ _)); refine blk_put (cs := #[.int .u64 0, .int .u64 0]) ?_ 0 _ rfl; (with_reducible repeat (first | refine blk_drewN ?_ _ | refine blk_drew ?_ | refine blk_alloc ?_ _)); exact BK496.out) Tryd.underlying107 rfl (by kernel_rfl)) rfl ?_
 exact ⟨by first | rfl | (simp [errW_none, errW_some] <;> rfl) | (simp [*, errW_none, errW_some] <;> rfl), by repeat (first | (with_reducible first | exact HB.out | apply below_alloc | apply pw_below_drewN | apply below_drew1 | refine below_set ?_ GE495.out | refine below_set ?_ GE496.out) | exact HB.out)⟩
def impl_fromProof.f (k : Nat) (l0_0 : List (S107)) (a0_1 : Int) (a0_2 : Int) (a0_3 : Int) (a0_4 : Int) : Option ((List (S70)) × Int × Int × Int × Int) := (proof_Nodes_Ephem.f l0_0 a0_1 a0_2 a0_3 a0_4).bind fun bt499 => ((impl_fromNodes.f k l0_0).bind fun t504 => ((impl_fromNode.f bt499.1 bt499.2.1).bind fun bt507 => (some (t504, bt507.1, bt507.2, bt499.2.2.1, bt499.2.2.2))))
theorem impl_fromProof.mono : ∀ a0 a1 a2 a3 a4 k, LeO (impl_fromProof.f k a0 a1 a2 a3 a4) (impl_fromProof.f (k + 1) a0 a1 a2 a3 a4) := by
 intro a0 a1 a2 a3 a4 k
 unfold impl_fromProof.f
 repeat' first
   | (with_reducible exact impl_fromNodes.mono _ _)
   | (with_reducible exact LeO.refl _)
   | (with_reducible exact LeO.none _)
   | (with_reducible refine LeO.ite ?_ ?_)
   | (with_reducible refine LeO.bind ?_ (fun _ => ?_))
   | exact impl_fromNodes.mono _ _
   | exact LeO.none _
   | refine LeO.ite ?_ ?_
   | refine LeO.bind ?_ (fun _ => ?_)
def impl_fromProof.T2 : Bool × List (List Nat × List Nat) := (true, [([], []), ([0], [0]), ([1], [1]), ([], []), ([3, 2], [3]), ([], []), ([], []), ([2, 4, 5, 6], [2, 4, 5, 6]), ([7, 4, 0, 1, 2, 3, 4, 5, 6, 7], [7])])
def impl_fromProof.B2 : List Nat := [0, 1, 3, 0, 15, 0, 0, 127, 255]
theorem impl_fromProof.tab2 : rtab .any (opsOf Tryd.f93 2) = impl_fromProof.T2 := by kernel_rfl
theorem impl_fromProof.bits2 : waitsOk impl_fromProof.T2.2 impl_fromProof.B2 = true := by kernel_rfl
set_option maxHeartbeats 8000000 in
set_option maxRecDepth 100000 in
theorem impl_fromProof.calls (k : Nat) (A0_0 : Option Addr) (c0_0 : Nat) (l0_0 : List (S107)) (a0_1 : Int) (a0_2 : Int) (a0_3 : Int) (a0_4 : Int) (r1 : List (S70)) (r2 : Int) (r3 : Int) (r4 : Int) (r5 : Int) (w : World) (hr0_0 : Kd.C k107 w A0_0 l0_0.length l0_0) (hc0_0 : l0_0.length ≤ c0_0) (h : impl_fromProof.f k l0_0 a0_1 a0_2 a0_3 a0_4 = some (r1, r2, r3, r4, r5)) :
  Calls Tryd.prog 93 #[.agg #[.slice A0_0 l0_0.length c0_0, .int .i64 a0_1, .int .i64 a0_2, .int .u64 a0_3, .int .u64 a0_4]] w fun e w' => ∃ v0_ : Value, e = .returned (.agg #[v0_, .int .u64 r2, .int .u64 r3, .int .i64 r4, .int .i64 r5]) ∧ Kd.R k70 70 w' w.heap.size (fun _ => True) v0_ r1 ∧ Below w.heap.size w w' := by
 have hu146 := Tryd.underlying146
 have hu72 := Tryd.underlying72
 have hu107 := Tryd.underlying107
 have HR0_0 := Aside0.mk hr0_0
 have HC0_0 := Aside0.mk hc0_0
 clear hr0_0 hc0_0
 have HB := Aside0.mk (Below.refl w.heap.size w)
 have H : ((proof_Nodes_Ephem.f l0_0 a0_1 a0_2 a0_3 a0_4).bind fun bt499 => ((impl_fromNodes.f k l0_0).bind fun t504 => ((impl_fromNode.f bt499.1 bt499.2.1).bind fun bt507 => (some (t504, bt507.1, bt507.2, bt499.2.2.1, bt499.2.2.2))))) = some (r1, r2, r3, r4, r5) := h
 clear h
 replace H := Option.bind_eq_some_iff.mp H
 obtain ⟨⟨t499, t500, t501, t502⟩, A20, H⟩ := H
 replace H : ((impl_fromNodes.f k l0_0).bind fun t504 => ((impl_fromNode.f t499 t500).bind fun bt507 => (some (t504, bt507.1, bt507.2, t501, t502)))) = some (r1, r2, r3, r4, r5) := H
 have A2 := Aside0.mk A20
 clear A20
 replace H := Option.bind_eq_some_iff.mp H
 obtain ⟨t504, A30, H⟩ := H
 replace H : ((impl_fromNode.f t499 t500).bind fun bt507 => (some (t504, bt507.1, bt507.2, t501, t502))) = some (r1, r2, r3, r4, r5) := H
 have A3 := Aside0.mk A30
 clear A30
 replace H := Option.bind_eq_some_iff.mp H
 obtain ⟨⟨t507, t508⟩, A40, H⟩ := H
 replace H : (some (t504, t507, t508, t501, t502)) = some (r1, r2, r3, r4, r5) := H
 have A4 := Aside0.mk A40
 clear A40
 simp only [Option.some.injEq, Prod.mk.injEq] at H
 obtain ⟨rfl, rfl, rfl, rfl, rfl⟩ := H
 go_enter Tryd.func93, Tryd.ntmps93
 try go_wp2_with (first | ((with_reducible refine gate_dst (N := 1) rfl ?_); refine box_event ?hg (N := 1) ?hd (cs := #[.slice A0_0 l0_0.length c0_0, .int .i64 a0_1, .int .i64 a0_2, .int .u64 a0_3, .int .u64 a0_4]) (t := 146) ?hr ?_; (case hd => rfl); (case hg => rfl); (case hr => first | (go_simp; done) | (go_simp; rfl)); intro gb497 hg w5 hbox hb; have n0_ := Aside0.mk (below_step (by repeat (first | (with_reducible first | exact HB.out | apply below_alloc | apply pw_below_drewN | apply below_drew1) | exact HB.out)) hb); have n1_ := Aside0.mk (hbox); have n2_ := Aside0.mk ((by rw [hg]; exact (below_size (by repeat (first | (with_reducible first | exact HB.out | apply below_alloc | apply pw_below_drewN | apply below_drew1) | exact HB.out))) : w.heap.size ≤ gb497)); have n3_ := Aside0.mk ((by rw [hg]; exact (below_size (by repeat (first | (with_reducible first | exact HB.out | apply below_alloc | apply pw_below_drewN | apply below_drew1) | exact HB.out))) : w.heap.size ≤ gb497)); clear HB; have HB := n0_; have BK497 := n1_; have GW497 := n2_; have GE497 := n3_; clear n0_ n1_ n2_ n3_; clear hb hbox hg) | ((with_reducible refine gate_dst (N := 2) rfl ?_); refine box_event ?hg (N := 2) ?hd (cs := #[.slice none 0 0, .int .u64 0, .int .u64 0, .int .i64 0, .int .i64 0]) (t := 72) ?hr ?_; (case hd => rfl); (case hg => rfl); (case hr => first | (go_simp; done) | (go_simp; rfl)); intro gb498 hg w6 hbox hb; have n0_ := Aside0.mk (blk_below (g := gb497) (o := .cells #[.slice A0_0 l0_0.length c0_0, .int .i64 a0_1, .int .i64 a0_2, .int .u64 a0_3, .int .u64 a0_4] 146 (0, 0)) (by (with_reducible repeat (first | refine blk_drewN ?_ _ | refine blk_drew ?_ | refine blk_alloc ?_ _)); exact BK497.out) hb); have n1_ := Aside0.mk (below_step (by repeat (first | (with_reducible first | exact HB.out | apply below_alloc | apply pw_below_drewN | apply below_drew1 | refine below_set ?_ GE497.out) | exact HB.out)) hb); have n2_ := Aside0.mk (hbox); have n3_ := Aside0.mk ((by rw [hg]; exact (below_size (by repeat (first | (with_reducible first | exact HB.out | apply below_alloc | apply pw_below_drewN | apply below_drew1 | refine below_set ?_ GE497.out) | exact HB.out))) : w.heap.size ≤ gb498)); have n4_ := Aside0.mk ((by rw [hg]; exact (below_size (by repeat (first | (with_reducible first | exact HB.out | apply below_alloc | apply pw_below_drewN | apply below_drew1 | refine below_set ?_ GE497.out) | exact HB.out))) : w.heap.size ≤ gb498)); have n5_ := Aside0.mk ((by rw [hg]; exact Nat.ne_of_lt (blk_lt (g := gb497) (o := .cells #[.slice A0_0 l0_0.length c0_0, .int .i64 a0_1, .int .i64 a0_2, .int .u64 a0_3, .int .u64 a0_4] 146 (0, 0)) (by (with_reducible repeat (first | refine blk_drewN ?_ _ | refine blk_drew ?_ | refine blk_alloc ?_ _)); exact BK497.out)) : gb497 ≠ gb498)); have n6_ := Aside0.mk ((by rw [hg]; exact Nat.ne_of_gt (blk_lt (g := gb497) (o := .cells #[.slice A0_0 l0_0.length c0_0, .int .i64 a0_1, .int .i64 a0_2, .int .u64 a0_3, .int .u64 a0_4] 146 (0, 0)) (by (with_reducible repeat (first | refine blk_drewN ?_ _ | refine blk_drew ?_ | refine blk_alloc ?_ _)); exact BK497.out)) : gb498 ≠ gb497)); clear BK497; clear HB; have BK497 := n0_; have HB := n1_; have BK498 := n2_; have GW498 := n3_; have GE498 := n4_; have NB497_498 := n5_; have NB498_497 := n6_; clear n0_ n1_ n2_ n3_ n4_ n5_ n6_; clear hb hbox hg; have hnb7 := NB497_498.out; have hnc7 := NB498_497.out; have hcz8_0 : w6.cell? ⟨gb497, 0, none⟩ = some (.slice A0_0 l0_0.length c0_0) := (blk_cell BK497.out 0).trans rfl; have hcz8_1 : w6.cell? ⟨gb497, 1, none⟩ = some (.int .i64 a0_1) := (blk_cell BK497.out 1).trans rfl; have hcz8_2 : w6.cell? ⟨gb497, 2, none⟩ = some (.int .i64 a0_2) := (blk_cell BK497.out 2).trans rfl; have hcz8_3 : w6.cell? ⟨gb497, 3, none⟩ = some (.int .u64 a0_3) := (blk_cell BK497.out 3).trans rfl; have hcz8_4 : w6.cell? ⟨gb497, 4, none⟩ = some (.int .u64 a0_4) := (blk_cell BK497.out 4).trans rfl; have hfz8_0 := blk_frozen BK497.out 0; have hfz8_1 := blk_frozen BK497.out 1; have hfz8_2 := blk_frozen BK497.out 2; have hfz8_3 := blk_frozen BK497.out 3; have hfz8_4 := blk_frozen BK497.out 4) | ((with_reducible refine gate_callee (f := 127) rfl ?_); refine goesL_ (some 8) rfl rfl Tryd.func127 (by kernel_rfl) rfl #[.agg #[.slice A0_0 l0_0.length c0_0, .int .i64 a0_1, .int .i64 a0_2, .int .u64 a0_3, .int .u64 a0_4]] rfl (by (try simp only [List.map_toArray, List.map_cons, List.map_nil]); first | done | rfl | (simp only [List.length_drop, List.length_take]; rfl)) ?_; (with_reducible refine (proof_Nodes_Ephem.calls _ _ l0_0 a0_1 a0_2 a0_3 a0_4 t499 t500 t501 t502 _ ?side1 ?side2 A2.out).mono ?_); (case side1 => repeat (first | exact (Kd.C_below HR0_0.out HB.out) | (with_reducible refine Kd.C_alloc ?_ _) | (with_reducible refine Kd.C_drewN ?_ _) | (with_reducible refine Kd.C_drew ?_))); (case side2 => exact HC0_0.out); rintro e w9 ⟨rfl, hb⟩; refine ⟨_, rfl, ?_⟩; have n0_ := Aside0.mk (blk_below (g := gb497) (o := .cells #[.slice A0_0 l0_0.length c0_0, .int .i64 a0_1, .int .i64 a0_2, .int .u64 a0_3, .int .u64 a0_4] 146 (0, 0)) (by (with_reducible repeat (first | refine blk_drewN ?_ _ | refine blk_drew ?_ | refine blk_alloc ?_ _)); exact BK497.out) hb); have n1_ := Aside0.mk (blk_below (g := gb498) (o := .cells #[.slice none 0 0, .int .u64 0, .int .u64 0, .int .i64 0, .int .i64 0] 72 (0, 0)) (by (with_reducible repeat (first | refine blk_drewN ?_ _ | refine blk_drew ?_ | refine blk_alloc ?_ _)); exact BK498.out) hb); have n2_ := Aside0.mk (below_step (by repeat (first | (with_reducible first | exact HB.out | apply below_alloc | apply pw_below_drewN | apply below_drew1 | refine below_set ?_ GE497.out | refine below_set ?_ GE498.out) | exact HB.out)) hb); clear BK497; clear BK498; clear HB; have BK497 := n0_; have BK498 := n1_; have HB := n2_; clear n0_ n1_ n2_; (try clear hb); (try clear hb2); (try clear hk); (try clear hi)) | ((with_reducible refine gate_dst (N := 3) rfl ?_); refine box_event ?hg (N := 3) ?hd (cs := #[.int .u64 0, .int .u64 0]) (t := 107) ?hr ?_; (case hd => rfl); (case hg => rfl); (case hr => first | (go_simp; done) | (go_simp; rfl)); intro gb503 hg w10 hbox hb; have n0_ := Aside0.mk (blk_below (g := gb497) (o := .cells #[.slice A0_0 l0_0.length c0_0, .int .i64 a0_1, .int .i64 a0_2, .int .u64 a0_3, .int .u64 a0_4] 146 (0, 0)) (by (with_reducible repeat (first | refine blk_drewN ?_ _ | refine blk_drew ?_ | refine blk_alloc ?_ _)); exact BK497.out) hb); have n1_ := Aside0.mk (blk_below (g := gb498) (o := .cells #[.slice none 0 0, .int .u64 0, .int .u64 0, .int .i64 0, .int .i64 0] 72 (0, 0)) (by (with_reducible repeat (first | refine blk_drewN ?_ _ | refine blk_drew ?_ | refine blk_alloc ?_ _)); exact BK498.out) hb); have n2_ := Aside0.mk (below_step (by repeat (first | (with_reducible first | exact HB.out | apply below_alloc | apply pw_below_drewN | apply below_drew1 | refine below_set ?_ GE497.out | refine below_set ?_ GE498.out) | exact HB.out)) hb); have n3_ := Aside0.mk (hbox); have n4_ := Aside0.mk ((by rw [hg]; exact (below_size (by repeat (first | (with_reducible first | exact HB.out | apply below_alloc | apply pw_below_drewN | apply below_drew1 | refine below_set ?_ GE497.out | refine below_set ?_ GE498.out) | exact HB.out))) : w.heap.size ≤ gb503)); have n5_ := Aside0.mk ((by rw [hg]; exact (below_size (by repeat (first | (with_reducible first | exact HB.out | apply below_alloc | apply pw_below_drewN | apply below_drew1 | refine below_set ?_ GE497.out | refine below_set ?_ GE498.out) | exact HB.out))) : w.heap.size ≤ gb503)); have n6_ := Aside0.mk ((by rw [hg]; exact Nat.ne_of_lt (blk_lt (g := gb497) (o := .cells #[.slice A0_0 l0_0.length c0_0, .int .i64 a0_1, .int .i64 a0_2, .int .u64 a0_3, .int .u64 a0_4] 146 (0, 0)) (by (with_reducible repeat (first | refine blk_drewN ?_ _ | refine blk_drew ?_ | refine blk_alloc ?_ _)); exact BK497.out)) : gb497 ≠ gb503)); have n7_ := Aside0.mk ((by rw [hg]; exact Nat.ne_of_gt (blk_lt (g := gb497) (o := .cells #[.slice A0_0 l0_0.length c0_0, .int .i64 a0_1, .int .i64 a0_2, .int .u64 a0_3, .int .u64 a0_4] 146 (0, 0)) (by (with_reducible repeat (first | refine blk_drewN ?_ _ | refine blk_drew ?_ | refine blk_alloc ?_ _)); exact BK497.out)) : gb503 ≠ gb497)); have n8_ := Aside0.mk ((by rw [hg]; exact Nat.ne_of_lt (blk_lt (g := gb498) (o := .cells #[.slice none 0 0, .int .u64 0, .int .u64 0, .int .i64 0, .int .i64 0] 72 (0, 0)) (by (with_reducible repeat (first | refine blk_drewN ?_ _ | refine blk_drew ?_ | refine blk_alloc ?_ _)); exact BK498.out)) : gb498 ≠ gb503)); have n9_ := Aside0.mk ((by rw [hg]; exact Nat.ne_of_gt (blk_lt (g := gb498) (o := .cells #[.slice none 0 0, .int .u64 0, .int .u64 0, .int .i64 0, .int .i64 0] 72 (0, 0)) (by (with_reducible repeat (first | refine blk_drewN ?_ _ | refine blk_drew ?_ | refine blk_alloc ?_ _)); exact BK498.out)) : gb503 ≠ gb498)); clear BK497; clear BK498; clear HB; have BK497 := n0_; have BK498 := n1_; have HB := n2_; have BK503 := n3_; have GW503 := n4_; have GE503 := n5_; have NB497_503 := n6_; have NB503_497 := n7_; have NB498_503 := n8_; have NB503_498 := n9_; clear n0_ n1_ n2_ n3_ n4_ n5_ n6_ n7_ n8_ n9_; clear hb hbox hg; have hnb11 := NB503_497.out; have hnc11 := NB497_503.out; have hnb12 := NB503_498.out; have hnc12 := NB498_503.out; have hcz13_0 : w10.cell? ⟨gb503, 0, none⟩ = some (.int .u64 0) := (blk_cell BK503.out 0).trans rfl; have hcz13_1 : w10.cell? ⟨gb503, 1, none⟩ = some (.int .u64 0) := (blk_cell BK503.out 1).trans rfl; have hfz13_0 := blk_frozen BK503.out 0; have hfz13_1 := blk_frozen BK503.out 1))
 have n0_ : Aside0 (((w10.setCell ⟨gb503, 0, none⟩ (.int .u64 t499)).setCell ⟨gb503, 1, none⟩ (.int .u64 t500)).heap[gb497]? = some (.cells #[.slice A0_0 l0_0.length c0_0, .int .i64 a0_1, .int .i64 a0_2, .int .u64 a0_3, .int .u64 a0_4] 146 (0, 0))) := ⟨by (with_reducible repeat (first | refine blk_drewN ?_ _ | refine blk_drew ?_ | refine blk_alloc ?_ _)); refine blk_far ?_ NB497_503.out _; (with_reducible repeat (first | refine blk_drewN ?_ _ | refine blk_drew ?_ | refine blk_alloc ?_ _)); refine blk_far ?_ NB497_503.out _; (with_reducible repeat (first | refine blk_drewN ?_ _ | refine blk_drew ?_ | refine blk_alloc ?_ _)); exact BK497.out⟩
 have n1_ : Aside0 (((w10.setCell ⟨gb503, 0, none⟩ (.int .u64 t499)).setCell ⟨gb503, 1, none⟩ (.int .u64 t500)).heap[gb498]? = some (.cells #[.slice none 0 0, .int .u64 0, .int .u64 0, .int .i64 0, .int .i64 0] 72 (0, 0))) := ⟨by (with_reducible repeat (first | refine blk_drewN ?_ _ | refine blk_drew ?_ | refine blk_alloc ?_ _)); refine blk_far ?_ NB498_503.out _; (with_reducible repeat (first | refine blk_drewN ?_ _ | refine blk_drew ?_ | refine blk_alloc ?_ _)); refine blk_far ?_ NB498_503.out _; (with_reducible repeat (first | refine blk_drewN ?_ _ | refine blk_drew ?_ | refine blk_alloc ?_ _)); exact BK498.out⟩
 have n2_ : Aside0 (((w10.setCell ⟨gb503, 0, none⟩ (.int .u64 t499)).setCell ⟨gb503, 1, none⟩ (.int .u64 t500)).heap[gb503]? = some (.cells #[.int .u64 t499, .int .u64 t500] 107 (0, 0))) := ⟨by (with_reducible repeat (first | refine blk_drewN ?_ _ | refine blk_drew ?_ | refine blk_alloc ?_ _)); refine blk_put (cs := #[.int .u64 t499, .int .u64 0]) ?_ 1 _ rfl; (with_reducible repeat (first | refine blk_drewN ?_ _ | refine blk_drew ?_ | refine blk_alloc ?_ _)); refine blk_put (cs := #[.int .u64 0, .int .u64 0]) ?_ 0 _ rfl; (with_reducible repeat (first | refine blk_drewN ?_ _ | refine blk_drew ?_ | refine blk_alloc ?_ _)); exact BK503.out⟩
 have n3_ : Aside0 (Below w.heap.size w ((w10.setCell ⟨gb503, 0, none⟩ (.int .u64 t499)).setCell ⟨gb503, 1, none⟩ (.int .u64 t500))) := ⟨by repeat (first | (with_reducible first | exact HB.out | apply below_alloc | apply pw_below_drewN | apply below_drew1 | refine below_set ?_ GE497.out | refine below_set ?_ GE498.out | refine below_set ?_ GE503.out) | exact HB.out)⟩
 (try clear BK497)
 (try clear BK498)
 (try clear BK503)
 (try clear HB)
 generalize ((w10.setCell ⟨gb503, 0, none⟩ (.int .u64 t499)).setCell ⟨gb503, 1, none⟩ (.int .u64 t500)) = w14 at n0_ n1_ n2_ n3_ ⊢
 have BK497 := n0_
 have BK498 := n1_
 have BK503 := n2_
 have HB := n3_
 clear n0_ n1_ n2_ n3_
 have n0_ := Aside0.mk (blk_drew BK497.out)
 have n1_ := Aside0.mk (blk_drew BK498.out)
 have n2_ := Aside0.mk (blk_drew BK503.out)
 have n3_ := Aside0.mk (below_drew1 HB.out)
 clear BK497
 clear BK498
 clear BK503
 clear HB
 have BK497 := n0_
 have BK498 := n1_
 have BK503 := n2_
 have HB := n3_
 clear n0_ n1_ n2_ n3_
 refine start_ (n := 9) (S := fun w' => w'.cell? ⟨gb497, 0, none⟩ = some (.slice A0_0 l0_0.length c0_0) ∧ w'.cell? ⟨gb497, 1, none⟩ = some (.int .i64 a0_1) ∧ w'.cell? ⟨gb497, 2, none⟩ = some (.int .i64 a0_2) ∧ w'.cell? ⟨gb497, 3, none⟩ = some (.int .u64 a0_3) ∧ w'.cell? ⟨gb497, 4, none⟩ = some (.int .u64 a0_4) ∧ w'.cell? ⟨gb503, 0, none⟩ = some (.int .u64 t499) ∧ w'.cell? ⟨gb503, 1, none⟩ = some (.int .u64 t500)) (ds := []) #[false, false, false, false, false, false, false, false, false] (by kernel_rfl) rfl rfl ⟨(blk_cell BK497.out 0).trans rfl, (blk_cell BK497.out 1).trans rfl, (blk_cell BK497.out 2).trans rfl, (blk_cell BK497.out 3).trans rfl, (blk_cell BK497.out 4).trans rfl, (blk_cell BK503.out 0).trans rfl, (blk_cell BK503.out 1).trans rfl⟩ (fun hHeld => ?_); refine with_tabW impl_fromProof.tab2 impl_fromProof.bits2 (fun HT_ HW_ => ?_)
 generalize w14.drew = w15 at BK497 BK498 BK503 HB hHeld ⊢
 refine pure_ (i := 0) (N := some 12) (v := ?_) (a' := ?_) #[true, false, false, false, false, false, false, false, false] rfl rfl (any_of HT_.out (by kernel_rfl)) (fun _ _ _ h => h) (Or.inl ⟨by rfl, ?_⟩) ?_ ?_
 rotate_left
 ·intro w'
  go_simp
  with_reducible rfl
 rotate_left
 ·simp only [Act.put, List.setIfInBounds_toArray, List.set_cons_zero, List.set_cons_succ, i64_w, i32_w]
  rfl
 refine pure_ (i := 5) (N := some 17) (v := ?_) (a' := ?_) #[true, false, false, false, false, true, false, false, false] rfl rfl (any_of HT_.out (by kernel_rfl)) (fun _ _ _ h => h) (Or.inl ⟨by rfl, ?_⟩) ?_ ?_
 rotate_left
 ·intro w'
  go_simp
  with_reducible rfl
 rotate_left
 ·simp only [Act.put, List.setIfInBounds_toArray, List.set_cons_zero, List.set_cons_succ, i64_w, i32_w]
  rfl
 refine pure_ (i := 6) (N := some 18) (v := ?_) (a' := ?_) #[true, false, false, false, false, true, true, false, false] rfl rfl (any_of HT_.out (by kernel_rfl)) (fun _ _ _ h => h) (Or.inl ⟨by rfl, ?_⟩) ?_ ?_
 rotate_left
 ·intro w'
  go_simp
  with_reducible rfl
 rotate_left
 ·simp only [Act.put, List.setIfInBounds_toArray, List.set_cons_zero, List.set_cons_succ, i64_w, i32_w]
  rfl
 refine take_ (i := 1) (N := some 13) (v := ?_) (a' := ?_) #[true, true, false, false, false, true, true, false, false] rfl rfl (take_ofW HT_.out HW_.out (by kernel_rfl)) (fun _ _ _ h => h) (Or.inl ⟨by rfl, ?_⟩) hHeld ?_ ?_
 rotate_left
 ·rintro w' ⟨s0, s1, s2, s3, s4, s5, s6⟩
  go_simp
  with_reducible rfl
 rotate_left
 ·simp only [Act.put, List.setIfInBounds_toArray, List.set_cons_zero, List.set_cons_succ, i64_w, i32_w]
  rfl
 refine take_ (i := 3) (N := some 15) (v := ?_) (a' := ?_) #[true, true, false, true, false, true, true, false, false] rfl rfl (take_ofW HT_.out HW_.out (by kernel_rfl)) (fun _ _ _ h => h) (Or.inl ⟨by rfl, ?_⟩) hHeld ?_ ?_
 rotate_left
 ·rintro w' ⟨s0, s1, s2, s3, s4, s5, s6⟩
  go_simp
  with_reducible rfl
 rotate_left
 ·simp only [Act.put, List.setIfInBounds_toArray, List.set_cons_zero, List.set_cons_succ, i64_w, i32_w]
  rfl
 refine one_ (i := 2) (N := some 14) #[true, true, true, true, false, true, true, false, false] rfl rfl (one_of HT_.out (by kernel_rfl)) (by decide) (fun K hK => ?_)
 refine goes_ Tryd.func64 (by kernel_rfl) rfl #[.slice A0_0 l0_0.length c0_0] (by rfl) rfl rfl (by (try simp only [List.map_toArray, List.map_cons, List.map_nil]); first | done | rfl | (simp only [List.length_drop, List.length_take]; rfl)) ?_
 with_reducible refine (impl_fromNodes.calls k _ _ l0_0 t504 _ ?side1 ?side2 A3.out).mono ?_
 (case side1 => repeat (first | exact (Kd.C_below HR0_0.out HB.out) | (with_reducible refine Kd.C_alloc ?_ _) | (with_reducible refine Kd.C_drewN ?_ _) | (with_reducible refine Kd.C_drew ?_)))
 (case side2 => exact HC0_0.out)
 rintro e w16 ⟨v505, rfl, ho0, hb⟩
 refine ⟨_, rfl, ?_⟩
 have n0_ := Aside0.mk (Kd.R_lower ho0 (below_size (by repeat (first | (with_reducible first | exact HB.out | apply below_alloc | apply pw_below_drewN | apply below_drew1 | refine below_set ?_ GE497.out | refine below_set ?_ GE498.out | refine below_set ?_ GE503.out) | exact HB.out))))
 have n1_ := Aside0.mk (blk_below (g := gb497) (o := .cells #[.slice A0_0 l0_0.length c0_0, .int .i64 a0_1, .int .i64 a0_2, .int .u64 a0_3, .int .u64 a0_4] 146 (0, 0)) (by (with_reducible repeat (first | refine blk_drewN ?_ _ | refine blk_drew ?_ | refine blk_alloc ?_ _)); exact BK497.out) hb)
 have n2_ := Aside0.mk (blk_below (g := gb498) (o := .cells #[.slice none 0 0, .int .u64 0, .int .u64 0, .int .i64 0, .int .i64 0] 72 (0, 0)) (by (with_reducible repeat (first | refine blk_drewN ?_ _ | refine blk_drew ?_ | refine blk_alloc ?_ _)); exact BK498.out) hb)
 have n3_ := Aside0.mk (blk_below (g := gb503) (o := .cells #[.int .u64 t499, .int .u64 t500] 107 (0, 0)) (by (with_reducible repeat (first | refine blk_drewN ?_ _ | refine blk_drew ?_ | refine blk_alloc ?_ _)); exact BK503.out) hb)
 have n4_ := Aside0.mk (below_step (by repeat (first | (with_reducible first | exact HB.out | apply below_alloc | apply pw_below_drewN | apply below_drew1 | refine below_set ?_ GE497.out | refine below_set ?_ GE498.out | refine below_set ?_ GE503.out) | exact HB.out)) hb)
 clear BK497
 clear BK498
 clear BK503
 clear HB
 have HO506 := n0_
 have BK497 := n1_
 have BK498 := n2_
 have BK503 := n3_
 have HB := n4_
 clear n0_ n1_ n2_ n3_ n4_
 (try clear hb)
 (try clear hb2)
 (try clear hk)
 (try clear hi)
 (try clear ho0)
 refine hK.out _ _ ⟨(blk_cell BK497.out 0).trans rfl, (blk_cell BK497.out 1).trans rfl, (blk_cell BK497.out 2).trans rfl, (blk_cell BK497.out 3).trans rfl, (blk_cell BK497.out 4).trans rfl, (blk_cell BK503.out 0).trans rfl, (blk_cell BK503.out 1).trans rfl⟩ (fun hHeld => ?_)
 clear hK K
 refine norm_ (a' := ?_) ?_ ?_
 rotate_left
 ·show Act.put _ (some 14) _ = _
  simp only [Act.put, List.setIfInBounds_toArray, List.set_cons_zero, List.set_cons_succ, i64_w, i32_w]
  rfl
 refine one_ (i := 4) (N := some 16) #[true, true, true, true, true, true, true, false, false] rfl rfl (one_of HT_.out (by kernel_rfl)) (by decide) (fun K hK => ?_)
 refine goes_ Tryd.func73 (by kernel_rfl) rfl #[.agg #[.int .u64 t499, .int .u64 t500]] (by rfl) rfl rfl (by (try simp only [List.map_toArray, List.map_cons, List.map_nil]); first | done | rfl | (simp only [List.length_drop, List.length_take]; rfl)) ?_
 with_reducible refine (impl_fromNode.calls t499 t500 t507 t508 _ A4.out).mono ?_
 rintro e w17 ⟨rfl, hb⟩
 refine ⟨_, rfl, ?_⟩
 have n0_ := Aside0.mk (Kd.R_below (by (with_reducible repeat (first | apply Kd.R_alloc | apply Kd.R_drewN | apply Kd.R_drew)); exact HO506.out) hb)
 have n1_ := Aside0.mk (blk_below (g := gb497) (o := .cells #[.slice A0_0 l0_0.length c0_0, .int .i64 a0_1, .int .i64 a0_2, .int .u64 a0_3, .int .u64 a0_4] 146 (0, 0)) (by (with_reducible repeat (first | refine blk_drewN ?_ _ | refine blk_drew ?_ | refine blk_alloc ?_ _)); exact BK497.out) hb)
 have n2_ := Aside0.mk (blk_below (g := gb498) (o := .cells #[.slice none 0 0, .int .u64 0, .int .u64 0, .int .i64 0, .int .i64 0] 72 (0, 0)) (by (with_reducible repeat (first | refine blk_drewN ?_ _ | refine blk_drew ?_ | refine blk_alloc ?_ _)); exact BK498.out) hb)
 have n3_ := Aside0.mk (blk_below (g := gb503) (o := .cells #[.int .u64 t499, .int .u64 t500] 107 (0, 0)) (by (with_reducible repeat (first | refine blk_drewN ?_ _ | refine blk_drew ?_ | refine blk_alloc ?_ _)); exact BK503.out) hb)
 have n4_ := Aside0.mk (below_step (by repeat (first | (with_reducible first | exact HB.out | apply below_alloc | apply pw_below_drewN | apply below_drew1 | refine below_set ?_ GE497.out | refine below_set ?_ GE498.out | refine below_set ?_ GE503.out) | exact HB.out)) hb)
 clear HO506
 clear BK497
 clear BK498
 clear BK503
 clear HB
 have HO506 := n0_
 have BK497 := n1_
 have BK498 := n2_
 have BK503 := n3_
 have HB := n4_
 clear n0_ n1_ n2_ n3_ n4_
 (try clear hb)
 (try clear hb2)
 (try clear hk)
 (try clear hi)
 obtain ⟨Ao18, co18, eo18⟩ := Kd.R_slice HO506.out
 (first | subst eo18 | (injection eo18 with f1_ f2_ f3_; have f4_ := f1_.symm; have f5_ := f3_.symm; clear f1_ f2_ f3_; subst f4_; subst f5_))
 refine hK.out _ _ ⟨(blk_cell BK497.out 0).trans rfl, (blk_cell BK497.out 1).trans rfl, (blk_cell BK497.out 2).trans rfl, (blk_cell BK497.out 3).trans rfl, (blk_cell BK497.out 4).trans rfl, (blk_cell BK503.out 0).trans rfl, (blk_cell BK503.out 1).trans rfl⟩ (fun hHeld => ?_)
 clear hK K
 refine norm_ (a' := ?_) ?_ ?_
 rotate_left
 ·show Act.put _ (some 16) _ = _
  simp only [Act.put, List.setIfInBounds_toArray, List.set_cons_zero, List.set_cons_succ, i64_w, i32_w]
  rfl
 refine pure_ (i := 7) (N := some 19) (v := ?_) (a' := ?_) #[true, true, true, true, true, true, true, true, false] rfl rfl (any_of HT_.out (by kernel_rfl)) (fun _ _ _ h => h) (Or.inl ⟨by rfl, ?_⟩) ?_ ?_
 rotate_left
 ·intro w'
  go_simp
  with_reducible rfl
 rotate_left
 ·simp only [Act.put, List.setIfInBounds_toArray, List.set_cons_zero, List.set_cons_succ, i64_w, i32_w]
  rfl
 refine one_ (i := 8) (N := none) #[true, true, true, true, true, true, true, true, true] rfl rfl (one_of HT_.out (by kernel_rfl)) (by decide) (fun K hK => ?_)
 have hs19 : w17.cell? ⟨gb498, 0, none⟩ = some (.slice none 0 0) := (blk_cell BK498.out 0).trans rfl
 have hfs19 := blk_frozen BK498.out 0
 have hns19_0 := NB497_498.out
 have hns19_2 := NB503_498.out
 have hms19_0 := NB498_497.out
 have hms19_2 := NB498_503.out
 have hs20 : w17.cell? ⟨gb498, 1, none⟩ = some (.int .u64 0) := (blk_cell BK498.out 1).trans rfl
 have hfs20 := blk_frozen BK498.out 1
 have hns20_0 := NB497_498.out
 have hns20_2 := NB503_498.out
 have hms20_0 := NB498_497.out
 have hms20_2 := NB498_503.out
 have hs21 : w17.cell? ⟨gb498, 2, none⟩ = some (.int .u64 0) := (blk_cell BK498.out 2).trans rfl
 have hfs21 := blk_frozen BK498.out 2
 have hns21_0 := NB497_498.out
 have hns21_2 := NB503_498.out
 have hms21_0 := NB498_497.out
 have hms21_2 := NB498_503.out
 have hs22 : w17.cell? ⟨gb498, 3, none⟩ = some (.int .i64 0) := (blk_cell BK498.out 3).trans rfl
 have hfs22 := blk_frozen BK498.out 3
 have hns22_0 := NB497_498.out
 have hns22_2 := NB503_498.out
 have hms22_0 := NB498_497.out
 have hms22_2 := NB498_503.out
 have hs23 : w17.cell? ⟨gb498, 4, none⟩ = some (.int .i64 0) := (blk_cell BK498.out 4).trans rfl
 have hfs23 := blk_frozen BK498.out 4
 have hns23_0 := NB497_498.out
 have hns23_2 := NB503_498.out
 have hms23_0 := NB498_497.out
 have hms23_2 := NB498_503.out
 refine skip_ (w1 := ?_) (by rfl) rfl ?_ ?_
 rotate_left
 ·go_simp
  rfl
 refine hK.out _ _ ⟨((cell_far (p := ⟨gb498, _, none⟩) NB497_498.out _).trans (((cell_far (p := ⟨gb498, _, none⟩) NB497_498.out _).trans (((cell_far (p := ⟨gb498, _, none⟩) NB497_498.out _).trans (((cell_far (p := ⟨gb498, _, none⟩) NB497_498.out _).trans (((cell_far (p := ⟨gb498, _, none⟩) NB497_498.out _).trans (hHeld.1)))))))))), ((cell_far (p := ⟨gb498, _, none⟩) NB497_498.out _).trans (((cell_far (p := ⟨gb498, _, none⟩) NB497_498.out _).trans (((cell_far (p := ⟨gb498, _, none⟩) NB497_498.out _).trans (((cell_far (p := ⟨gb498, _, none⟩) NB497_498.out _).trans (((cell_far (p := ⟨gb498, _, none⟩) NB497_498.out _).trans (hHeld.2.1)))))))))), ((cell_far (p := ⟨gb498, _, none⟩) NB497_498.out _).trans (((cell_far (p := ⟨gb498, _, none⟩) NB497_498.out _).trans (((cell_far (p := ⟨gb498, _, none⟩) NB497_498.out _).trans (((cell_far (p := ⟨gb498, _, none⟩) NB497_498.out _).trans (((cell_far (p := ⟨gb498, _, none⟩) NB497_498.out _).trans (hHeld.2.2.1)))))))))), ((cell_far (p := ⟨gb498, _, none⟩) NB497_498.out _).trans (((cell_far (p := ⟨gb498, _, none⟩) NB497_498.out _).trans (((cell_far (p := ⟨gb498, _, none⟩) NB497_498.out _).trans (((cell_far (p := ⟨gb498, _, none⟩) NB497_498.out _).trans (((cell_far (p := ⟨gb498, _, none⟩) NB497_498.out _).trans (hHeld.2.2.2.1)))))))))), ((cell_far (p := ⟨gb498, _, none⟩) NB497_498.out _).trans (((cell_far (p := ⟨gb498, _, none⟩) NB497_498.out _).trans (((cell_far (p := ⟨gb498, _, none⟩) NB497_498.out _).trans (((cell_far (p := ⟨gb498, _, none⟩) NB497_498.out _).trans (((cell_far (p := ⟨gb498, _, none⟩) NB497_498.out _).trans (hHeld.2.2.2.2.1)))))))))), ((cell_far (p := ⟨gb498, _, none⟩) NB503_498.out _).trans (((cell_far (p := ⟨gb498, _, none⟩) NB503_498.out _).trans (((cell_far (p := ⟨gb498, _, none⟩) NB503_498.out _).trans (((cell_far (p := ⟨gb498, _, none⟩) NB503_498.out _).trans (((cell_far (p := ⟨gb498, _, none⟩) NB503_498.out _).trans (hHeld.2.2.2.2.2.1)))))))))), ((cell_far (p := ⟨gb498, _, none⟩) NB503_498.out _).trans (((cell_far (p := ⟨gb498, _, none⟩) NB503_498.out _).trans (((cell_far (p := ⟨gb498, _, none⟩) NB503_498.out _).trans (((cell_far (p := ⟨gb498, _, none⟩) NB503_498.out _).trans (((cell_far (p := ⟨gb498, _, none⟩) NB503_498.out _).trans (hHeld.2.2.2.2.2.2))))))))))⟩ (fun hHeld => ?_)
 clear hK K
 refine done_ (done_of HT_.out (by kernel_rfl)) ?_
 try go_wp2
 refine bodyPost_ret (results_cell_row rfl _ _ gb498 72 #[.slice Ao18 t504.length co18, .int .u64 t507, .int .u64 t508, .int .i64 t501, .int .i64 t502] (0, 0) _ rfl (by (with_reducible repeat (first | refine blk_drewN ?_ _ | refine blk_drew ?_ | refine blk_alloc ?_ _)); refine blk_put (cs := #[.slice Ao18 t504.length co18, .int .u64 t507, .int .u64 t508, .int .i64 t501, .int .i64 0]) ?_ 4 _ rfl; (with_reducible repeat (first | refine blk_drewN ?_ _ | refine blk_drew ?_ | refine blk_alloc ?_ _)); refine blk_put (cs := #[.slice Ao18 t504.length co18, .int .u64 t507, .int .u64 t508, .int .i64 0, .int .i64 0]) ?_ 3 _ rfl; (with_reducible repeat (first | refine blk_drewN ?_ _ | refine blk_drew ?_ | refine blk_alloc ?_ _)); refine blk_put (cs := #[.slice Ao18 t504.length co18, .int .u64 t507, .int .u64 0, .int .i64 0, .int .i64 0]) ?_ 2 _ rfl; (with_reducible repeat (first | refine blk_drewN ?_ _ | refine blk_drew ?_ | refine blk_alloc ?_ _)); refine blk_put (cs := #[.slice Ao18 t504.length co18, .int .u64 0, .int .u64 0, .int .i64 0, .int .i64 0]) ?_ 1 _ rfl; (with_reducible repeat (first | refine blk_drewN ?_ _ | refine blk_drew ?_ | refine blk_alloc ?_ _)); refine blk_put (cs := #[.slice none 0 0, .int .u64 0, .int .u64 0, .int .i64 0, .int .i64 0]) ?_ 0 _ rfl; (with_reducible repeat (first | refine blk_drewN ?_ _ | refine blk_drew ?_ | refine blk_alloc ?_ _)); exact BK498.out) Tryd.underlying72 rfl (by kernel_rfl)) rfl ?_
 exact ⟨_, by first | rfl | (simp [errW_none, errW_some] <;> rfl) | (simp [*, errW_none, errW_some] <;> rfl), by (with_reducible repeat (first | apply Kd.R_alloc | apply Kd.R_drewN | apply Kd.R_drew)); exact Kd.R_mono (Kd.R_far (p := ⟨gb498, 4, none⟩) (Kd.R_far (p := ⟨gb498, 3, none⟩) (Kd.R_far (p := ⟨gb498, 2, none⟩) (Kd.R_far (p := ⟨gb498, 1, none⟩) (Kd.R_far (p := ⟨gb498, 0, none⟩) (Kd.R_types HO506.out BK498.out (by decide)) (fun _ hk => hk.2) (.slice Ao18 t504.length co18)) (fun _ hk => hk.2) (.int .u64 t507)) (fun _ hk => hk.2) (.int .u64 t508)) (fun _ hk => hk.2) (.int .i64 t501)) (fun _ hk => hk.2) (.int .i64 t502)) (fun _ hk => trivial), by repeat (first | (with_reducible first | exact HB.out | apply below_alloc | apply pw_below_drewN | apply below_drew1 | refine below_set ?_ GE497.out | refine below_set ?_ GE498.out | refine below_set ?_ GE503.out) | exact HB.out)⟩
def impl_Consistency.f (k : Nat) (a0 : Int) (a1 : Int) : Option ((List (S70)) × Int × Int × Int × Int × Bool) := (proof_Consistency.f k a0 a1).bind fun bt510 => (if bt510.2.2.2.2.2.1.isNone = true then ((impl_fromProof.f k bt510.1 bt510.2.1 bt510.2.2.1 bt510.2.2.2.1 bt510.2.2.2.2.1).bind fun bt527 => (some (bt527.1, bt527.2.1, bt527.2.2.1, bt527.2.2.2.1, bt527.2.2.2.2, true))) else (some (([] : List (S70)), 0, 0, 0, 0, false)))
theorem impl_Consistency.mono : ∀ a0 a1 k, LeO (impl_Consistency.f k a0 a1) (impl_Consistency.f (k + 1) a0 a1) := by
 intro a0 a1 k
 unfold impl_Consistency.f
 repeat' first
   | (with_reducible exact impl_fromProof.mono _ _ _ _ _ _)
   | (with_reducible exact proof_Consistency.mono _ _ _)
   | (with_reducible exact LeO.refl _)
   | (with_reducible exact LeO.none _)
   | (with_reducible refine LeO.ite ?_ ?_)
   | (with_reducible refine LeO.bind ?_ (fun _ => ?_))
   | exact impl_fromProof.mono _ _ _ _ _ _
   | exact proof_Consistency.mono _ _ _
   | exact LeO.none _
   | refine LeO.ite ?_ ?_
   | refine LeO.bind ?_ (fun _ => ?_)
set_option maxHeartbeats 8000000 in
set_option maxRecDepth 100000 in
theorem impl_Consistency.calls (k : Nat) (a0 : Int) (a1 : Int) (r1 : List (S70)) (r2 : Int) (r3 : Int) (r4 : Int) (r5 : Int) (r6 : Bool) (w : World) (hGT : GlobT w) (h : impl_Consistency.f k a0 a1 = some (r1, r2, r3, r4, r5, r6)) :
  Calls Tryd.prog 40 #[.int .u64 a0, .int .u64 a1] w fun e w' => ∃ v0_ : Value, e = .returned (.tuple #[.agg #[v0_, .int .u64 r2, .int .u64 r3, .int .i64 r4, .int .i64 r5], .bool r6]) ∧ Kd.R k70 70 w' w.heap.size (fun _ => True) v0_ r1 ∧ Below w.heap.size w w' := by
 have hu72 := Tryd.underlying72
 have hu146 := Tryd.underlying146
 have hu120 := Tryd.underlying120
 have HB := Aside0.mk (Below.refl w.heap.size w)
 have H : ((proof_Consistency.f k a0 a1).bind fun bt510 => (if bt510.2.2.2.2.2.1.isNone = true then ((impl_fromProof.f k bt510.1 bt510.2.1 bt510.2.2.1 bt510.2.2.2.1 bt510.2.2.2.2.1).bind fun bt527 => (some (bt527.1, bt527.2.1, bt527.2.2.1, bt527.2.2.2.1, bt527.2.2.2.2, true))) else (some (([] : List (S70)), 0, 0, 0, 0, false)))) = some (r1, r2, r3, r4, r5, r6) := h
 clear h
 replace H := Option.bind_eq_some_iff.mp H
 obtain ⟨⟨t510, t513, t514, t515, t516, t517, t519, t522⟩, A30, H⟩ := H
 replace H : (if t517.isNone = true then ((impl_fromProof.f k t510 t513 t514 t515 t516).bind fun bt527 => (some (bt527.1, bt527.2.1, bt527.2.2.1, bt527.2.2.2.1, bt527.2.2.2.2, true))) else (some (([] : List (S70)), 0, 0, 0, 0, false))) = some (r1, r2, r3, r4, r5, r6) := H
 have A3 := Aside0.mk A30
 clear A30
 rcases t517 with _ | q526
 ·have H1 : ((impl_fromProof.f k t510 t513 t514 t515 t516).bind fun bt527 => (some (bt527.1, bt527.2.1, bt527.2.2.1, bt527.2.2.2.1, bt527.2.2.2.2, true))) = some (r1, r2, r3, r4, r5, r6) := by rw [if_pos (show (none : Option Int).isNone = true by rfl)] at H; exact H
  clear H
  have H := H1
  clear H1
  try simp only [errW_none, errW_some]
  replace H := Option.bind_eq_some_iff.mp H
  obtain ⟨⟨t527, t530, t531, t532, t533⟩, A40, H⟩ := H
  replace H : (some (t527, t530, t531, t532, t533, true)) = some (r1, r2, r3, r4, r5, r6) := H
  have A4 := Aside0.mk A40
  clear A40
  simp only [Option.some.injEq, Prod.mk.injEq] at H
  obtain ⟨rfl, rfl, rfl, rfl, rfl, rfl⟩ := H
  go_enter Tryd.func40, Tryd.ntmps40
  go_wp2_with (first | ((with_reducible refine gate_dst (N := 4) rfl ?_); refine box_event ?hg (N := 4) ?hd (cs := #[.slice none 0 0, .int .u64 0, .int .u64 0, .int .i64 0, .int .i64 0]) (t := 72) ?hr ?_; (case hd => rfl); (case hg => rfl); (case hr => first | (go_simp; done) | (go_simp; rfl)); intro gb509 hg w5 hbox hb; have n0_ := Aside0.mk (below_step (by repeat (first | (with_reducible first | exact HB.out | apply below_alloc | apply pw_below_drewN | apply below_drew1) | exact HB.out)) hb); have n1_ := Aside0.mk (hbox); have n2_ := Aside0.mk ((by rw [hg]; exact (below_size (by repeat (first | (with_reducible first | exact HB.out | apply below_alloc | apply pw_below_drewN | apply below_drew1) | exact HB.out))) : w.heap.size ≤ gb509)); have n3_ := Aside0.mk ((by rw [hg]; exact (below_size (by repeat (first | (with_reducible first | exact HB.out | apply below_alloc | apply pw_below_drewN | apply below_drew1) | exact HB.out))) : w.heap.size ≤ gb509)); clear HB; have HB := n0_; have BK509 := n1_; have GW509 := n2_; have GE509 := n3_; clear n0_ n1_ n2_ n3_; clear hb hbox hg) | ((with_reducible refine gate_callee (f := 92) rfl ?_); refine goesL_ (some 11) rfl rfl Tryd.func92 (by kernel_rfl) rfl #[.int .u64 a0, .int .u64 a1] rfl (by (try simp only [List.map_toArray, List.map_cons, List.map_nil]); first | done | rfl | (simp only [List.length_drop, List.length_take]; rfl)) ?_; (with_reducible refine (proof_Consistency.calls k a0 a1 t510 t513 t514 t515 t516 none t519 t522 _ ?side1 A3.out).mono ?_); (case side1 => exact GlobT.below hGT (by repeat (first | (with_reducible first | exact HB.out | apply below_alloc | apply pw_below_drewN | apply below_drew1 | refine below_set ?_ GE509.out) | exact HB.out))); rintro e w6 ⟨v511, v520, v523, qe518, rfl, ho0, ho1, ho2, hb⟩; refine ⟨_, rfl, ?_⟩; have n0_ := Aside0.mk (Kd.V_lower (Kd.V_mono (ok' := fun k_ => some k_ ≠ (v520 : Value).ownBlock ∧ some k_ ≠ (v523 : Value).ownBlock ∧ k_ ≠ gb509) ho0 (fun k_ hk_ => ⟨hk_.2.1, hk_.2.2, (Kd.freshB (g := gb509) (o := .cells #[.slice none 0 0, .int .u64 0, .int .u64 0, .int .i64 0, .int .i64 0] 72 (0, 0)) (by (with_reducible repeat (first | refine blk_drewN ?_ _ | refine blk_drew ?_ | refine blk_alloc ?_ _)); exact BK509.out) k_ hk_.1)⟩)) (below_size (by repeat (first | (with_reducible first | exact HB.out | apply below_alloc | apply pw_below_drewN | apply below_drew1 | refine below_set ?_ GE509.out) | exact HB.out)))); have n1_ := Aside0.mk (Kd.R_lower (Kd.R_mono (ok' := fun k_ => some k_ ≠ (v523 : Value).ownBlock) ho1 (fun _ hk_ => hk_.2)) (below_size (by repeat (first | (with_reducible first | exact HB.out | apply below_alloc | apply pw_below_drewN | apply below_drew1 | refine below_set ?_ GE509.out) | exact HB.out)))); have n2_ := Aside0.mk (Kd.R_lower (Kd.R_mono (ok' := fun k_ => some k_ ≠ (v520 : Value).ownBlock) ho2 (fun _ hk_ => hk_.2)) (below_size (by repeat (first | (with_reducible first | exact HB.out | apply below_alloc | apply pw_below_drewN | apply below_drew1 | refine below_set ?_ GE509.out) | exact HB.out)))); have n3_ := Aside0.mk (blk_below (g := gb509) (o := .cells #[.slice none 0 0, .int .u64 0, .int .u64 0, .int .i64 0, .int .i64 0] 72 (0, 0)) (by (with_reducible repeat (first | refine blk_drewN ?_ _ | refine blk_drew ?_ | refine blk_alloc ?_ _)); exact BK509.out) hb); have n4_ := Aside0.mk (below_step (by repeat (first | (with_reducible first | exact HB.out | apply below_alloc | apply pw_below_drewN | apply below_drew1 | refine below_set ?_ GE509.out) | exact HB.out)) hb); clear BK509; clear HB; have HO512 := n0_; have HO521 := n1_; have HO524 := n2_; have BK509 := n3_; have HB := n4_; clear n0_ n1_ n2_ n3_ n4_; (try clear hb); (try clear hb2); (try clear hk); (try clear hi); (try clear ho0); (try clear ho1); (try clear ho2); (try simp only [errW_none, errW_some])) | ((with_reducible refine gate_dst (N := 6) rfl ?_); refine box_event ?hg (N := 6) ?hd (cs := #[.slice none 0 0, .int .i64 0, .int .i64 0, .int .u64 0, .int .u64 0]) (t := 146) ?hr ?_; (case hd => rfl); (case hg => rfl); (case hr => first | (go_simp; done) | (go_simp; rfl)); intro gb525 hg w7 hbox hb; have n0_ := Aside0.mk (Kd.V_below (Kd.V_elderB (by (with_reducible repeat (first | apply Kd.V_alloc | apply Kd.V_drewN | apply Kd.V_drew)); exact HO512.out) gb525 (Nat.le_of_eq hg.symm)) hb); have n1_ := Aside0.mk (Kd.R_below (by (with_reducible repeat (first | apply Kd.R_alloc | apply Kd.R_drewN | apply Kd.R_drew)); exact HO521.out) hb); have n2_ := Aside0.mk (Kd.R_below (by (with_reducible repeat (first | apply Kd.R_alloc | apply Kd.R_drewN | apply Kd.R_drew)); exact HO524.out) hb); have n3_ := Aside0.mk (blk_below (g := gb509) (o := .cells #[.slice none 0 0, .int .u64 0, .int .u64 0, .int .i64 0, .int .i64 0] 72 (0, 0)) (by (with_reducible repeat (first | refine blk_drewN ?_ _ | refine blk_drew ?_ | refine blk_alloc ?_ _)); exact BK509.out) hb); have n4_ := Aside0.mk (below_step (by repeat (first | (with_reducible first | exact HB.out | apply below_alloc | apply pw_below_drewN | apply below_drew1 | refine below_set ?_ GE509.out) | exact HB.out)) hb); have n5_ := Aside0.mk (hbox); have n6_ := Aside0.mk ((by rw [hg]; exact (below_size (by repeat (first | (with_reducible first | exact HB.out | apply below_alloc | apply pw_below_drewN | apply below_drew1 | refine below_set ?_ GE509.out) | exact HB.out))) : w.heap.size ≤ gb525)); have n7_ := Aside0.mk ((by rw [hg]; exact (below_size (by repeat (first | (with_reducible first | exact HB.out | apply below_alloc | apply pw_below_drewN | apply below_drew1 | refine below_set ?_ GE509.out) | exact HB.out))) : w.heap.size ≤ gb525)); have n8_ := Aside0.mk ((by rw [hg]; exact Nat.ne_of_lt (blk_lt (g := gb509) (o := .cells #[.slice none 0 0, .int .u64 0, .int .u64 0, .int .i64 0, .int .i64 0] 72 (0, 0)) (by (with_reducible repeat (first | refine blk_drewN ?_ _ | refine blk_drew ?_ | refine blk_alloc ?_ _)); exact BK509.out)) : gb509 ≠ gb525)); have n9_ := Aside0.mk ((by rw [hg]; exact Nat.ne_of_gt (blk_lt (g := gb509) (o := .cells #[.slice none 0 0, .int .u64 0, .int .u64 0, .int .i64 0, .int .i64 0] 72 (0, 0)) (by (with_reducible repeat (first | refine blk_drewN ?_ _ | refine blk_drew ?_ | refine blk_alloc ?_ _)); exact BK509.out)) : gb525 ≠ gb509)); clear HO512; clear HO521; clear HO524; clear BK509; clear HB; have HO512 := n0_; have HO521 := n1_; have HO524 := n2_; have BK509 := n3_; have HB := n4_; have BK525 := n5_; have GW525 := n6_; have GE525 := n7_; have NB509_525 := n8_; have NB525_509 := n9_; clear n0_ n1_ n2_ n3_ n4_ n5_ n6_ n7_ n8_ n9_; clear hb hbox hg; obtain ⟨Ao8, co8, eo8⟩ := Kd.V_slice HO512.out; subst eo8; have hnb9 := NB525_509.out; have hnc9 := NB509_525.out; have hcz10_0 : w7.cell? ⟨gb525, 0, none⟩ = some (.slice none 0 0) := (blk_cell BK525.out 0).trans rfl; have hcz10_1 : w7.cell? ⟨gb525, 1, none⟩ = some (.int .i64 0) := (blk_cell BK525.out 1).trans rfl; have hcz10_2 : w7.cell? ⟨gb525, 2, none⟩ = some (.int .i64 0) := (blk_cell BK525.out 2).trans rfl; have hcz10_3 : w7.cell? ⟨gb525, 3, none⟩ = some (.int .u64 0) := (blk_cell BK525.out 3).trans rfl; have hcz10_4 : w7.cell? ⟨gb525, 4, none⟩ = some (.int .u64 0) := (blk_cell BK525.out 4).trans rfl; have hfz10_0 := blk_frozen BK525.out 0; have hfz10_1 := blk_frozen BK525.out 1; have hfz10_2 := blk_frozen BK525.out 2; have hfz10_3 := blk_frozen BK525.out 3; have hfz10_4 := blk_frozen BK525.out 4) | ((with_reducible refine gate_callee (f := 93) rfl ?_); refine goesL_ (some 18) rfl rfl Tryd.func93 (by kernel_rfl) rfl #[.agg #[.slice Ao8 t510.length co8, .int .i64 t513, .int .i64 t514, .int .u64 t515, .int .u64 t516]] rfl (by (try simp only [List.map_toArray, List.map_cons, List.map_nil]); first | done | rfl | (simp only [List.length_drop, List.length_take]; rfl)) ?_; (with_reducible refine (impl_fromProof.calls k _ _ t510 t513 t514 t515 t516 t527 t530 t531 t532 t533 _ ?side1 ?side2 A4.out).mono ?_); (case side1 => refine (Kd.V_reads' (e := 107) (base := w.heap.size) (ok := fun k_ => ((some k_ ≠ (v520 : Value).ownBlock ∧ (some k_ ≠ (v523 : Value).ownBlock ∧ k_ ≠ gb509)) ∧ k_ ≠ gb525)) (n := t510.length) (c := co8) ?_).2.2; exact (by (with_reducible repeat (first | apply Kd.V_alloc | apply Kd.V_drewN | apply Kd.V_drew)); exact (Kd.V_mono (Kd.V_far (p := ⟨gb525, 4, none⟩) (Kd.V_far (p := ⟨gb525, 3, none⟩) (Kd.V_far (p := ⟨gb525, 2, none⟩) (Kd.V_far (p := ⟨gb525, 1, none⟩) (Kd.V_far (p := ⟨gb525, 0, none⟩) (Kd.V_mono HO512.out (fun k_ hk => (⟨hk, hk.2⟩ : _ ∧ k_ ≠ gb525))) (fun _ hk => hk.2) (.slice Ao8 t510.length co8)) (fun _ hk => hk.2) (.int .i64 t513)) (fun _ hk => hk.2) (.int .i64 t514)) (fun _ hk => hk.2) (.int .u64 t515)) (fun _ hk => hk.2) (.int .u64 t516)) (fun _ h_ => h_.1)))); (case side2 => exact (Kd.V_reads' HO512.out).2.1); rintro e w11 ⟨v528, rfl, ho0, hb⟩; refine ⟨_, rfl, ?_⟩; have n0_ := Aside0.mk (Kd.V_elder' (by (with_reducible repeat (first | apply Kd.V_alloc | apply Kd.V_drewN | apply Kd.V_drew)); exact (Kd.V_mono (Kd.V_far (p := ⟨gb525, 4, none⟩) (Kd.V_far (p := ⟨gb525, 3, none⟩) (Kd.V_far (p := ⟨gb525, 2, none⟩) (Kd.V_far (p := ⟨gb525, 1, none⟩) (Kd.V_far (p := ⟨gb525, 0, none⟩) (Kd.V_mono HO512.out (fun k_ hk => (⟨hk, hk.2⟩ : _ ∧ k_ ≠ gb525))) (fun _ hk => hk.2) (.slice Ao8 t510.length co8)) (fun _ hk => hk.2) (.int .i64 t513)) (fun _ hk => hk.2) (.int .i64 t514)) (fun _ hk => hk.2) (.int .u64 t515)) (fun _ hk => hk.2) (.int .u64 t516)) (fun _ h_ => h_.1))) (Kd.R_base ho0) hb); have n1_ := Aside0.mk (Kd.R_below (by (with_reducible repeat (first | apply Kd.R_alloc | apply Kd.R_drewN | apply Kd.R_drew)); exact (Kd.R_mono (Kd.R_far (p := ⟨gb525, 4, none⟩) (Kd.R_far (p := ⟨gb525, 3, none⟩) (Kd.R_far (p := ⟨gb525, 2, none⟩) (Kd.R_far (p := ⟨gb525, 1, none⟩) (Kd.R_far (p := ⟨gb525, 0, none⟩) (Kd.R_types HO521.out BK525.out (by decide)) (fun _ hk => hk.2) (.slice Ao8 t510.length co8)) (fun _ hk => hk.2) (.int .i64 t513)) (fun _ hk => hk.2) (.int .i64 t514)) (fun _ hk => hk.2) (.int .u64 t515)) (fun _ hk => hk.2) (.int .u64 t516)) (fun _ h_ => h_.1))) hb); have n2_ := Aside0.mk (Kd.R_below (by (with_reducible repeat (first | apply Kd.R_alloc | apply Kd.R_drewN | apply Kd.R_drew)); exact (Kd.R_mono (Kd.R_far (p := ⟨gb525, 4, none⟩) (Kd.R_far (p := ⟨gb525, 3, none⟩) (Kd.R_far (p := ⟨gb525, 2, none⟩) (Kd.R_far (p := ⟨gb525, 1, none⟩) (Kd.R_far (p := ⟨gb525, 0, none⟩) (Kd.R_types HO524.out BK525.out (by decide)) (fun _ hk => hk.2) (.slice Ao8 t510.length co8)) (fun _ hk => hk.2) (.int .i64 t513)) (fun _ hk => hk.2) (.int .i64 t514)) (fun _ hk => hk.2) (.int .u64 t515)) (fun _ hk => hk.2) (.int .u64 t516)) (fun _ h_ => h_.1))) hb); have n3_ := Aside0.mk (Kd.R_lower ho0 (below_size (by repeat (first | (with_reducible first | exact HB.out | apply below_alloc | apply pw_below_drewN | apply below_drew1 | refine below_set ?_ GE509.out | refine below_set ?_ GE525.out) | exact HB.out)))); have n4_ := Aside0.mk (blk_below (g := gb509) (o := .cells #[.slice none 0 0, .int .u64 0, .int .u64 0, .int .i64 0, .int .i64 0] 72 (0, 0)) (by (with_reducible repeat (first | refine blk_drewN ?_ _ | refine blk_drew ?_ | refine blk_alloc ?_ _)); refine blk_far ?_ NB509_525.out _; (with_reducible repeat (first | refine blk_drewN ?_ _ | refine blk_drew ?_ | refine blk_alloc ?_ _)); refine blk_far ?_ NB509_525.out _; (with_reducible repeat (first | refine blk_drewN ?_ _ | refine blk_drew ?_ | refine blk_alloc ?_ _)); refine blk_far ?_ NB509_525.out _; (with_reducible repeat (first | refine blk_drewN ?_ _ | refine blk_drew ?_ | refine blk_alloc ?_ _)); refine blk_far ?_ NB509_525.out _; (with_reducible repeat (first | refine blk_drewN ?_ _ | refine blk_drew ?_ | refine blk_alloc ?_ _)); refine blk_far ?_ NB509_525.out _; (with_reducible repeat (first | refine blk_drewN ?_ _ | refine blk_drew ?_ | refine blk_alloc ?_ _)); exact BK509.out) hb); have n5_ := Aside0.mk (blk_below (g := gb525) (o := .cells #[.slice Ao8 t510.length co8, .int .i64 t513, .int .i64 t514, .int .u64 t515, .int .u64 t516] 146 (0, 0)) (by (with_reducible repeat (first | refine blk_drewN ?_ _ | refine blk_drew ?_ | refine blk_alloc ?_ _)); refine blk_put (cs := #[.slice Ao8 t510.length co8, .int .i64 t513, .int .i64 t514, .int .u64 t515, .int .u64 0]) ?_ 4 _ rfl; (with_reducible repeat (first | refine blk_drewN ?_ _ | refine blk_drew ?_ | refine blk_alloc ?_ _)); refine blk_put (cs := #[.slice Ao8 t510.length co8, .int .i64 t513, .int .i64 t514, .int .u64 0, .int .u64 0]) ?_ 3 _ rfl; (with_reducible repeat (first | refine blk_drewN ?_ _ | refine blk_drew ?_ | refine blk_alloc ?_ _)); refine blk_put (cs := #[.slice Ao8 t510.length co8, .int .i64 t513, .int .i64 0, .int .u64 0, .int .u64 0]) ?_ 2 _ rfl; (with_reducible repeat (first | refine blk_drewN ?_ _ | refine blk_drew ?_ | refine blk_alloc ?_ _)); refine blk_put (cs := #[.slice Ao8 t510.length co8, .int .i64 0, .int .i64 0, .int .u64 0, .int .u64 0]) ?_ 1 _ rfl; (with_reducible repeat (first | refine blk_drewN ?_ _ | refine blk_drew ?_ | refine blk_alloc ?_ _)); refine blk_put (cs := #[.slice none 0 0, .int .i64 0, .int .i64 0, .int .u64 0, .int .u64 0]) ?_ 0 _ rfl; (with_reducible repeat (first | refine blk_drewN ?_ _ | refine blk_drew ?_ | refine blk_alloc ?_ _)); exact BK525.out) hb); have n6_ := Aside0.mk (below_step (by repeat (first | (with_reducible first | exact HB.out | apply below_alloc | apply pw_below_drewN | apply below_drew1 | refine below_set ?_ GE509.out | refine below_set ?_ GE525.out) | exact HB.out)) hb); clear HO512; clear HO521; clear HO524; clear BK509; clear BK525; clear HB; have HO512 := n0_; have HO521 := n1_; have HO524 := n2_; have HO529 := n3_; have BK509 := n4_; have BK525 := n5_; have HB := n6_; clear n0_ n1_ n2_ n3_ n4_ n5_ n6_; (try clear hb); (try clear hb2); (try clear hk); (try clear hi); (try clear ho0); obtain ⟨Ao12, co12, eo12⟩ := Kd.R_slice HO529.out; subst eo12; have hcz13_0 : w11.cell? ⟨gb509, 0, none⟩ = some (.slice none 0 0) := (blk_cell BK509.out 0).trans rfl; have hcz13_1 : w11.cell? ⟨gb509, 1, none⟩ = some (.int .u64 0) := (blk_cell BK509.out 1).trans rfl; have hcz13_2 : w11.cell? ⟨gb509, 2, none⟩ = some (.int .u64 0) := (blk_cell BK509.out 2).trans rfl; have hcz13_3 : w11.cell? ⟨gb509, 3, none⟩ = some (.int .i64 0) := (blk_cell BK509.out 3).trans rfl; have hcz13_4 : w11.cell? ⟨gb509, 4, none⟩ = some (.int .i64 0) := (blk_cell BK509.out 4).trans rfl; have hfz13_0 := blk_frozen BK509.out 0; have hfz13_1 := blk_frozen BK509.out 1; have hfz13_2 := blk_frozen BK509.out 2; have hfz13_3 := blk_frozen BK509.out 3; have hfz13_4 := blk_frozen BK509.out 4))
  refine bodyPost_ret (results_ct rfl _ _ gb509 72 #[.slice Ao12 t527.length co12, .int .u64 t530, .int .u64 t531, .int .i64 t532, .int .i64 t533] (0, 0) _ rfl (by (with_reducible repeat (first | refine blk_drewN ?_ _ | refine blk_drew ?_ | refine blk_alloc ?_ _)); refine blk_put (cs := #[.slice Ao12 t527.length co12, .int .u64 t530, .int .u64 t531, .int .i64 t532, .int .i64 0]) ?_ 4 _ rfl; (with_reducible repeat (first | refine blk_drewN ?_ _ | refine blk_drew ?_ | refine blk_alloc ?_ _)); refine blk_put (cs := #[.slice Ao12 t527.length co12, .int .u64 t530, .int .u64 t531, .int .i64 0, .int .i64 0]) ?_ 3 _ rfl; (with_reducible repeat (first | refine blk_drewN ?_ _ | refine blk_drew ?_ | refine blk_alloc ?_ _)); refine blk_put (cs := #[.slice Ao12 t527.length co12, .int .u64 t530, .int .u64 0, .int .i64 0, .int .i64 0]) ?_ 2 _ rfl; (with_reducible repeat (first | refine blk_drewN ?_ _ | refine blk_drew ?_ | refine blk_alloc ?_ _)); refine blk_put (cs := #[.slice Ao12 t527.length co12, .int .u64 0, .int .u64 0, .int .i64 0, .int .i64 0]) ?_ 1 _ rfl; (with_reducible repeat (first | refine blk_drewN ?_ _ | refine blk_drew ?_ | refine blk_alloc ?_ _)); refine blk_put (cs := #[.slice none 0 0, .int .u64 0, .int .u64 0, .int .i64 0, .int .i64 0]) ?_ 0 _ rfl; (with_reducible repeat (first | refine blk_drewN ?_ _ | refine blk_drew ?_ | refine blk_alloc ?_ _)); exact BK509.out) Tryd.underlying72 rfl (by kernel_rfl)) rfl ?_
  exact ⟨_, by first | rfl | (simp [errW_none, errW_some] <;> rfl) | (simp [*, errW_none, errW_some] <;> rfl), by (with_reducible repeat (first | apply Kd.R_alloc | apply Kd.R_drewN | apply Kd.R_drew)); exact Kd.R_mono (Kd.R_far (p := ⟨gb509, 4, none⟩) (Kd.R_far (p := ⟨gb509, 3, none⟩) (Kd.R_far (p := ⟨gb509, 2, none⟩) (Kd.R_far (p := ⟨gb509, 1, none⟩) (Kd.R_far (p := ⟨gb509, 0, none⟩) (Kd.R_types HO529.out BK509.out (by decide)) (fun _ hk => hk.2) (.slice Ao12 t527.length co12)) (fun _ hk => hk.2) (.int .u64 t530)) (fun _ hk => hk.2) (.int .u64 t531)) (fun _ hk => hk.2) (.int .i64 t532)) (fun _ hk => hk.2) (.int .i64 t533)) (fun _ hk => trivial), by repeat (first | (with_reducible first | exact HB.out | apply below_alloc | apply pw_below_drewN | apply below_drew1 | refine below_set ?_ GE509.out | refine below_set ?_ GE525.out) | exact HB.out)⟩
 ·have H1 : (some (([] : List (S70)), 0, 0, 0, 0, false)) = some (r1, r2, r3, r4, r5, r6) := by rw [if_neg (show ¬ (some q526).isNone = true by simp)] at H; exact H
  clear H
  have H := H1
  clear H1
  try simp only [errW_none, errW_some]
  simp only [Option.some.injEq, Prod.mk.injEq] at H
  obtain ⟨rfl, rfl, rfl, rfl, rfl, rfl⟩ := H
  go_enter Tryd.func40, Tryd.ntmps40
  go_wp2_with (first | ((with_reducible refine gate_dst (N := 4) rfl ?_); refine box_event ?hg (N := 4) ?hd (cs := #[.slice none 0 0, .int .u64 0, .int .u64 0, .int .i64 0, .int .i64 0]) (t := 72) ?hr ?_; (case hd => rfl); (case hg => rfl); (case hr => first | (go_simp; done) | (go_simp; rfl)); intro gb509 hg w14 hbox hb; have n0_ := Aside0.mk (below_step (by repeat (first | (with_reducible first | exact HB.out | apply below_alloc | apply pw_below_drewN | apply below_drew1) | exact HB.out)) hb); have n1_ := Aside0.mk (hbox); have n2_ := Aside0.mk ((by rw [hg]; exact (below_size (by repeat (first | (with_reducible first | exact HB.out | apply below_alloc | apply pw_below_drewN | apply below_drew1) | exact HB.out))) : w.heap.size ≤ gb509)); have n3_ := Aside0.mk ((by rw [hg]; exact (below_size (by repeat (first | (with_reducible first | exact HB.out | apply below_alloc | apply pw_below_drewN | apply below_drew1) | exact HB.out))) : w.heap.size ≤ gb509)); clear HB; have HB := n0_; have BK509 := n1_; have GW509 := n2_; have GE509 := n3_; clear n0_ n1_ n2_ n3_; clear hb hbox hg) | ((with_reducible refine gate_callee (f := 92) rfl ?_); refine goesL_ (some 11) rfl rfl Tryd.func92 (by kernel_rfl) rfl #[.int .u64 a0, .int .u64 a1] rfl (by (try simp only [List.map_toArray, List.map_cons, List.map_nil]); first | done | rfl | (simp only [List.length_drop, List.length_take]; rfl)) ?_; (with_reducible refine (proof_Consistency.calls k a0 a1 t510 t513 t514 t515 t516 (some q526) t519 t522 _ ?side1 A3.out).mono ?_); (case side1 => exact GlobT.below hGT (by repeat (first | (with_reducible first | exact HB.out | apply below_alloc | apply pw_below_drewN | apply below_drew1 | refine below_set ?_ GE509.out) | exact HB.out))); rintro e w15 ⟨v511, v520, v523, qe518, rfl, ho0, ho1, ho2, hb⟩; refine ⟨_, rfl, ?_⟩; have n0_ := Aside0.mk (Kd.V_lower (Kd.V_mono (ok' := fun k_ => some k_ ≠ (v520 : Value).ownBlock ∧ some k_ ≠ (v523 : Value).ownBlock ∧ k_ ≠ gb509) ho0 (fun k_ hk_ => ⟨hk_.2.1, hk_.2.2, (Kd.freshB (g := gb509) (o := .cells #[.slice none 0 0, .int .u64 0, .int .u64 0, .int .i64 0, .int .i64 0] 72 (0, 0)) (by (with_reducible repeat (first | refine blk_drewN ?_ _ | refine blk_drew ?_ | refine blk_alloc ?_ _)); exact BK509.out) k_ hk_.1)⟩)) (below_size (by repeat (first | (with_reducible first | exact HB.out | apply below_alloc | apply pw_below_drewN | apply below_drew1 | refine below_set ?_ GE509.out) | exact HB.out)))); have n1_ := Aside0.mk (Kd.R_lower (Kd.R_mono (ok' := fun k_ => some k_ ≠ (v523 : Value).ownBlock) ho1 (fun _ hk_ => hk_.2)) (below_size (by repeat (first | (with_reducible first | exact HB.out | apply below_alloc | apply pw_below_drewN | apply below_drew1 | refine below_set ?_ GE509.out) | exact HB.out)))); have n2_ := Aside0.mk (Kd.R_lower (Kd.R_mono (ok' := fun k_ => some k_ ≠ (v520 : Value).ownBlock) ho2 (fun _ hk_ => hk_.2)) (below_size (by repeat (first | (with_reducible first | exact HB.out | apply below_alloc | apply pw_below_drewN | apply below_drew1 | refine below_set ?_ GE509.out) | exact HB.out)))); have n3_ := Aside0.mk (blk_below (g := gb509) (o := .cells #[.slice none 0 0, .int .u64 0, .int .u64 0, .int .i64 0, .int .i64 0] 72 (0, 0)) (by (with_reducible repeat (first | refine blk_drewN ?_ _ | refine blk_drew ?_ | refine blk_alloc ?_ _)); exact BK509.out) hb); have n4_ := Aside0.mk (below_step (by repeat (first | (with_reducible first | exact HB.out | apply below_alloc | apply pw_below_drewN | apply below_drew1 | refine below_set ?_ GE509.out) | exact HB.out)) hb); clear BK509; clear HB; have HO512 := n0_; have HO521 := n1_; have HO524 := n2_; have BK509 := n3_; have HB := n4_; clear n0_ n1_ n2_ n3_ n4_; (try clear hb); (try clear hb2); (try clear hk); (try clear hi); (try clear ho0); (try clear ho1); (try clear ho2); (try simp only [errW_none, errW_some])) | ((with_reducible refine gate_dst (N := 6) rfl ?_); refine box_event ?hg (N := 6) ?hd (cs := #[.slice none 0 0, .int .i64 0, .int .i64 0, .int .u64 0, .int .u64 0]) (t := 146) ?hr ?_; (case hd => rfl); (case hg => rfl); (case hr => first | (go_simp; done) | (go_simp; rfl)); intro gb525 hg w16 hbox hb; have n0_ := Aside0.mk (Kd.V_below (Kd.V_elderB (by (with_reducible repeat (first | apply Kd.V_alloc | apply Kd.V_drewN | apply Kd.V_drew)); exact HO512.out) gb525 (Nat.le_of_eq hg.symm)) hb); have n1_ := Aside0.mk (Kd.R_below (by (with_reducible repeat (first | apply Kd.R_alloc | apply Kd.R_drewN | apply Kd.R_drew)); exact HO521.out) hb); have n2_ := Aside0.mk (Kd.R_below (by (with_reducible repeat (first | apply Kd.R_alloc | apply Kd.R_drewN | apply Kd.R_drew)); exact HO524.out) hb); have n3_ := Aside0.mk (blk_below (g := gb509) (o := .cells #[.slice none 0 0, .int .u64 0, .int .u64 0, .int .i64 0, .int .i64 0] 72 (0, 0)) (by (with_reducible repeat (first | refine blk_drewN ?_ _ | refine blk_drew ?_ | refine blk_alloc ?_ _)); exact BK509.out) hb); have n4_ := Aside0.mk (below_step (by repeat (first | (with_reducible first | exact HB.out | apply below_alloc | apply pw_below_drewN | apply below_drew1 | refine below_set ?_ GE509.out) | exact HB.out)) hb); have n5_ := Aside0.mk (hbox); have n6_ := Aside0.mk ((by rw [hg]; exact (below_size (by repeat (first | (with_reducible first | exact HB.out | apply below_alloc | apply pw_below_drewN | apply below_drew1 | refine below_set ?_ GE509.out) | exact HB.out))) : w.heap.size ≤ gb525)); have n7_ := Aside0.mk ((by rw [hg]; exact (below_size (by repeat (first | (with_reducible first | exact HB.out | apply below_alloc | apply pw_below_drewN | apply below_drew1 | refine below_set ?_ GE509.out) | exact HB.out))) : w.heap.size ≤ gb525)); have n8_ := Aside0.mk ((by rw [hg]; exact Nat.ne_of_lt (blk_lt (g := gb509) (o := .cells #[.slice none 0 0, .int .u64 0, .int .u64 0, .int .i64 0, .int .i64 0] 72 (0, 0)) (by (with_reducible repeat (first | refine blk_drewN ?_ _ | refine blk_drew ?_ | refine blk_alloc ?_ _)); exact BK509.out)) : gb509 ≠ gb525)); have n9_ := Aside0.mk ((by rw [hg]; exact Nat.ne_of_gt (blk_lt (g := gb509) (o := .cells #[.slice none 0 0, .int .u64 0, .int .u64 0, .int .i64 0, .int .i64 0] 72 (0, 0)) (by (with_reducible repeat (first | refine blk_drewN ?_ _ | refine blk_drew ?_ | refine blk_alloc ?_ _)); exact BK509.out)) : gb525 ≠ gb509)); clear HO512; clear HO521; clear HO524; clear BK509; clear HB; have HO512 := n0_; have HO521 := n1_; have HO524 := n2_; have BK509 := n3_; have HB := n4_; have BK525 := n5_; have GW525 := n6_; have GE525 := n7_; have NB509_525 := n8_; have NB525_509 := n9_; clear n0_ n1_ n2_ n3_ n4_ n5_ n6_ n7_ n8_ n9_; clear hb hbox hg; obtain ⟨Ao17, co17, eo17⟩ := Kd.V_slice HO512.out; subst eo17; have hnb18 := NB525_509.out; have hnc18 := NB509_525.out; have hcz19_0 : w16.cell? ⟨gb525, 0, none⟩ = some (.slice none 0 0) := (blk_cell BK525.out 0).trans rfl; have hcz19_1 : w16.cell? ⟨gb525, 1, none⟩ = some (.int .i64 0) := (blk_cell BK525.out 1).trans rfl; have hcz19_2 : w16.cell? ⟨gb525, 2, none⟩ = some (.int .i64 0) := (blk_cell BK525.out 2).trans rfl; have hcz19_3 : w16.cell? ⟨gb525, 3, none⟩ = some (.int .u64 0) := (blk_cell BK525.out 3).trans rfl; have hcz19_4 : w16.cell? ⟨gb525, 4, none⟩ = some (.int .u64 0) := (blk_cell BK525.out 4).trans rfl; have hfz19_0 := blk_frozen BK525.out 0; have hfz19_1 := blk_frozen BK525.out 1; have hfz19_2 := blk_frozen BK525.out 2; have hfz19_3 := blk_frozen BK525.out 3; have hfz19_4 := blk_frozen BK525.out 4; have hcz20_0 : w16.cell? ⟨gb509, 0, none⟩ = some (.slice none 0 0) := (blk_cell BK509.out 0).trans rfl; have hcz20_1 : w16.cell? ⟨gb509, 1, none⟩ = some (.int .u64 0) := (blk_cell BK509.out 1).trans rfl; have hcz20_2 : w16.cell? ⟨gb509, 2, none⟩ = some (.int .u64 0) := (blk_cell BK509.out 2).trans rfl; have hcz20_3 : w16.cell? ⟨gb509, 3, none⟩ = some (.int .i64 0) := (blk_cell BK509.out 3).trans rfl; have hcz20_4 : w16.cell? ⟨gb509, 4, none⟩ = some (.int .i64 0) := (blk_cell BK509.out 4).trans rfl; have hfz20_0 := blk_frozen BK509.out 0; have hfz20_1 := blk_frozen BK509.out 1; have hfz20_2 := blk_frozen BK509.out 2; have hfz20_3 := blk_frozen BK509.out 3; have hfz20_4 := blk_frozen BK509.out 4))
  refine bodyPost_ret (results_ct rfl _ _ gb509 72 #[.slice none 0 0, .int .u64 0, .int .u64 0, .int .i64 0, .int .i64 0] (0, 0) _ rfl (by (with_reducible repeat (first | refine blk_drewN ?_ _ | refine blk_drew ?_ | refine blk_alloc ?_ _)); refine blk_put (cs := #[.slice none 0 0, .int .u64 0, .int .u64 0, .int .i64 0, .int .i64 0]) ?_ 4 _ rfl; (with_reducible repeat (first | refine blk_drewN ?_ _ | refine blk_drew ?_ | refine blk_alloc ?_ _)); refine blk_put (cs := #[.slice none 0 0, .int .u64 0, .int .u64 0, .int .i64 0, .int .i64 0]) ?_ 3 _ rfl; (with_reducible repeat (first | refine blk_drewN ?_ _ | refine blk_drew ?_ | refine blk_alloc ?_ _)); refine blk_put (cs := #[.slice none 0 0, .int .u64 0, .int .u64 0, .int .i64 0, .int .i64 0]) ?_ 2 _ rfl; (with_reducible repeat (first | refine blk_drewN ?_ _ | refine blk_drew ?_ | refine blk_alloc ?_ _)); refine blk_put (cs := #[.slice none 0 0, .int .u64 0, .int .u64 0, .int .i64 0, .int .i64 0]) ?_ 1 _ rfl; (with_reducible repeat (first | refine blk_drewN ?_ _ | refine blk_drew ?_ | refine blk_alloc ?_ _)); refine blk_put (cs := #[.slice none 0 0, .int .u64 0, .int .u64 0, .int .i64 0, .int .i64 0]) ?_ 0 _ rfl; (with_reducible repeat (first | refine blk_drewN ?_ _ | refine blk_drew ?_ | refine blk_alloc ?_ _)); refine blk_far ?_ NB509_525.out _; (with_reducible repeat (first | refine blk_drewN ?_ _ | refine blk_drew ?_ | refine blk_alloc ?_ _)); refine blk_far ?_ NB509_525.out _; (with_reducible repeat (first | refine blk_drewN ?_ _ | refine blk_drew ?_ | refine blk_alloc ?_ _)); refine blk_far ?_ NB509_525.out _; (with_reducible repeat (first | refine blk_drewN ?_ _ | refine blk_drew ?_ | refine blk_alloc ?_ _)); refine blk_far ?_ NB509_525.out _; (with_reducible repeat (first | refine blk_drewN ?_ _ | refine blk_drew ?_ | refine blk_alloc ?_ _)); refine blk_far ?_ NB509_525.out _; (with_reducible repeat (first | refine blk_drewN ?_ _ | refine blk_drew ?_ | refine blk_alloc ?_ _)); exact BK509.out) Tryd.underlying72 rfl (by kernel_rfl)) rfl ?_
  exact ⟨(.slice none 0 0), by first | rfl | (simp [errW_none, errW_some] <;> rfl) | (simp [*, errW_none, errW_some] <;> rfl), by first | exact Kd.R_nil _ _ _ _ _ | exact Kd.N_nil _ _ _ _ _ | exact Kd.V_nil _ _ _ _ _ | exact Kd.Q_nil _ _ _ _ _ | exact Kd.S_nil _ _ _ _ _, by repeat (first | (with_reducible first | exact HB.out | apply below_alloc | apply pw_below_drewN | apply below_drew1 | refine below_set ?_ GE509.out | refine below_set ?_ GE525.out) | exact HB.out)⟩
def laws_scalable.f (a0 : Int) (a1 : Int) : Option (Bool) := if a1 ≥ 0 then (if a1 ≤ 63 then (if 0 ≤ a1 then (some ((shr .u64 (shl .u64 a0 a1) a1) == a0)) else (none)) else (some false)) else (some false)
set_option maxHeartbeats 8000000 in
set_option maxRecDepth 100000 in
theorem laws_scalable.calls (a0 : Int) (a1 : Int) (r : Bool) (w : World) (h : laws_scalable.f a0 a1 = some r) :
  Calls Tryd.prog 54 #[.int .u64 a0, .int .i64 a1] w fun e w' => e = .returned (.bool r) ∧ Drawn0 w w' := by
 have H : (if a1 ≥ 0 then (if a1 ≤ 63 then (if 0 ≤ a1 then (some ((shr .u64 (shl .u64 a0 a1) a1) == a0)) else (none)) else (some false)) else (some false)) = some r := h
 clear h
 by_cases c3 : a1 ≥ 0
 ·rw [if_pos c3] at H
  have c3b0 : decide (0 ≤ a1) = true := decide_eq_true c3
  clear c3
  by_cases c4 : a1 ≤ 63
  ·rw [if_pos c4] at H
   have c4b0 : decide (a1 ≤ 63) = true := decide_eq_true c4
   clear c4
   by_cases c5 : 0 ≤ a1
   ·rw [if_pos c5] at H
    have c5b0 := eq_true c5
    have c5b1 : decide (0 ≤ a1) = true := decide_eq_true c5
    clear c5
    obtain ⟨ji6, hji6⟩ : ∃ j_ : Int, (shl .u64 a0 a1) = j_ := ⟨_, rfl⟩
    replace H : (some ((shr .u64 (ji6) a1) == a0)) = some r := by first | (rw [hji6] at H; exact H) | (simp only [hji6] at H ⊢; exact H)
    have hji6_ : (IntKind.u64.wrap (a0 * 2 ^ min a1.toNat 64)) = ji6 := hji6
    have hji6z : a1 ≤ 64 → (IntKind.u64.wrap (a0 * 2 ^ a1.toNat)) = ji6 := shl_small hji6
    have c7b0 := eq_true (of_decide_eq_true (by first | (with_reducible assumption) | assumption) : 0 ≤ a1)
    obtain ⟨ji8, hji8⟩ : ∃ j_ : Int, (shr .u64 (ji6) a1) = j_ := ⟨_, rfl⟩
    replace H : (some ((ji8) == a0)) = some r := by first | (rw [hji8] at H; exact H) | (simp only [hji8] at H ⊢; exact H)
    have hji8_ : ((ji6) / 2 ^ min a1.toNat 64) = ji8 := hji8
    have hji8z : a1 ≤ 64 → ((ji6) / 2 ^ a1.toNat) = ji8 := shr_small hji8
    obtain rfl := Option.some.inj H
    go_enter Tryd.func54, Tryd.ntmps54
    go_wp2
    go_ret
    exact ⟨by first | rfl | (simp; done) | (simp only [← hji6, ← hji8] <;> (first | rfl | simp)) | (simp [*]; done), by repeat (first | exact Drawn0.refl _ | apply Drawn0.step)⟩
   ·rw [if_neg c5] at H
    exact absurd H (by simp)
  ·rw [if_neg c4] at H
   have c4b0 : decide (a1 ≤ 63) = false := decide_eq_false c4
   clear c4
   obtain rfl := Option.some.inj H
   go_enter Tryd.func54, Tryd.ntmps54
   go_wp2
   go_ret
   exact ⟨by first | rfl | (simp; done) | (simp [*]; done), by repeat (first | exact Drawn0.refl _ | apply Drawn0.step)⟩
 ·rw [if_neg c3] at H
  have c3b0 : decide (0 ≤ a1) = false := decide_eq_false c3
  clear c3
  obtain rfl := Option.some.inj H
  go_enter Tryd.func54, Tryd.ntmps54
  go_wp2
  go_ret
  exact ⟨by first | rfl | (simp; done) | (simp [*]; done), by repeat (first | exact Drawn0.refl _ | apply Drawn0.step)⟩
def laws_raised.l0 : Nat → Int → List (S70) → List (S70) → Int → Int → Option ((List (S70)))
 | 0, _, _, _, _, _ => none
 | k + 1, x1, x5, x8, x9, x10 => if x10 < x9 then (if 0 ≤ x10 then (if x10 < (x8.length : Int) then (if x5.length < 8796093022208 then (laws_raised.l0 k x1 (x5 ++ [(⟨IntKind.u64.wrap (((rd_T70 x8 x10).f0) + (IntKind.u64.wrap (x1))), (rd_T70 x8 x10).f1⟩ : S70)]) x8 x9 (wrap64 (x10 + 1))) else (none)) else (none)) else (none)) else (some x5)
def laws_raised.f (k : Nat) (l0 : List (S70)) (a1 : Int) : Option ((List (S70))) := laws_raised.l0 k a1 ([] : List (S70)) l0 (l0.length : Int) 0
theorem laws_raised.mono_l : ∀ k, (∀ y0 y1 y2 y3 y4, LeO (laws_raised.l0 k y0 y1 y2 y3 y4) (laws_raised.l0 (k + 1) y0 y1 y2 y3 y4))
 | 0 => fun _ _ _ _ _ r h => by simp [laws_raised.l0] at h
 | k + 1 => by
  have ih0 := laws_raised.mono_l k
  ·intro y0 y1 y2 y3 y4
   unfold laws_raised.l0
   repeat' first
   | (with_reducible exact ih0 _ _ _ _ _)
   | (with_reducible exact LeO.refl _)
   | (with_reducible exact LeO.none _)
   | (with_reducible refine LeO.ite ?_ ?_)
   | (with_reducible refine LeO.bind ?_ (fun _ => ?_))
   | exact ih0 _ _ _ _ _
   | exact LeO.none _
   | refine LeO.ite ?_ ?_
   | refine LeO.bind ?_ (fun _ => ?_)
theorem laws_raised.mono : ∀ a0 a1 k, LeO (laws_raised.f k a0 a1) (laws_raised.f (k + 1) a0 a1) := by
 intro a0 a1 k
 have ih0 := laws_raised.mono_l k
 unfold laws_raised.f
 repeat' first
   | (with_reducible exact ih0 _ _ _ _ _)
   | (with_reducible exact LeO.refl _)
   | (with_reducible exact LeO.none _)
   | (with_reducible refine LeO.ite ?_ ?_)
   | (with_reducible refine LeO.bind ?_ (fun _ => ?_))
   | exact ih0 _ _ _ _ _
   | exact LeO.none _
   | refine LeO.ite ?_ ?_
   | refine LeO.bind ?_ (fun _ => ?_)
set_option maxHeartbeats 8000000 in
set_option maxRecDepth 100000 in
theorem laws_raised.calls (k : Nat) (A0 : Option Addr) (c0 : Nat) (l0 : List (S70)) (a1 : Int) (r : List (S70)) (w : World) (hr0 : Kd.C k70 w A0 l0.length l0) (hc0 : l0.length ≤ c0) (h : laws_raised.f k l0 a1 = some r) :
  Calls Tryd.prog 55 #[.slice A0 l0.length c0, .int .i64 a1] w fun e w' => ∃ v0_ : Value, e = .returned (v0_) ∧ Kd.R k70 70 w' w.heap.size (fun _ => True) v0_ r ∧ Below w.heap.size w w' := by
 have hu70 := Tryd.underlying70
 have HR0 := Aside0.mk hr0
 have HC0 := Aside0.mk hc0
 clear hr0 hc0
 have HB := Aside0.mk (Below.refl w.heap.size w)
 have H : (laws_raised.l0 k a1 ([] : List (S70)) l0 (l0.length : Int) 0) = some r := h
 clear h
 have H' := Aside0.mk H
 clear H
 go_enter Tryd.func55, Tryd.ntmps55
 go_wp2
 try simp only [Act.put, List.setIfInBounds_toArray, List.set_cons_zero, List.set_cons_succ]
 go_loopg [5, 10] k (fun kq v5 v10 w' => ∃ (x5_1 : List (S70)) (x10_1 : Int), v10 = .int .i64 x10_1 ∧ Aside0 (laws_raised.l0 kq a1 x5_1 l0 (l0.length : Int) x10_1 = some r) ∧ Aside0 (kq ≤ k) ∧ Aside0 (Kd.R k70 70 w' w.heap.size (fun _ => True) v5 x5_1) ∧ Aside0 (Below w.heap.size w w'))
 case atStart => exact ⟨(([] : List (S70))), (0), (by first | rfl | (simp; done) | (simp [*]; done)), H', ⟨Nat.le_refl _⟩, ⟨by first | exact Kd.R_nil _ _ _ _ _ | exact Kd.N_nil _ _ _ _ _ | exact Kd.V_nil _ _ _ _ _ | exact Kd.Q_nil _ _ _ _ _ | exact Kd.S_nil _ _ _ _ _⟩, ⟨by repeat (first | (with_reducible first | exact HB.out | apply below_alloc | apply pw_below_drewN | apply below_drew1) | exact HB.out)⟩⟩
 case round =>
  clear H'
  try clear p2
  obtain ⟨x5_1, x10_1, rfl, HA, HK1, HO_5, HB⟩ := hrel
  cases gk with
  | zero => exact absurd HA.out (by simp [laws_raised.l0])
  | succ k1 =>
   have H := HA.out
   clear HA
   simp only [laws_raised.l0] at H
   by_cases c3 : x10_1 < (l0.length : Int)
   ·rw [if_pos c3] at H
    have c3b0 : decide (x10_1 < (l0.length : Int)) = true := decide_eq_true c3
    clear c3
    by_cases c4 : 0 ≤ x10_1
    ·rw [if_pos c4] at H
     have c4b0 : decide (0 ≤ x10_1) = true := decide_eq_true c4
     clear c4
     by_cases c5 : x10_1 < (l0.length : Int)
     ·rw [if_pos c5] at H
      have c5b0 : decide (x10_1 < (l0.length : Int)) = true := decide_eq_true c5
      clear c5
      by_cases c6 : x5_1.length < 8796093022208
      ·rw [if_pos c6] at H
       have LMc6 := Aside0.mk c6
       clear c6
       obtain ⟨y536, hy536⟩ : ∃ y_ : List (S70), y_ = (x5_1 ++ [(⟨IntKind.u64.wrap (((rd_T70 l0 x10_1).f0) + (IntKind.u64.wrap (a1))), (rd_T70 l0 x10_1).f1⟩ : S70)]) := ⟨_, rfl⟩
       replace H : (laws_raised.l0 k1 a1 y536 l0 (l0.length : Int) (wrap64 (x10_1 + 1))) = some r := by first | (rw [hy536]; with_reducible exact H) | (have H2_ := (Option.bind_some _ _).symm.trans H; rw [hy536]; with_reducible exact H2_) | (have H2_ := (Option.bind_some _ _).symm.trans H; with_reducible exact H2_) | with_reducible exact H | (rw [hy536]; exact H) | exact H
       have Ny536 := Aside0.mk hy536
       clear hy536
       have H' := Aside0.mk H
       clear H
       have p534 : 0 ≤ (x10_1 : Int) := of_decide_eq_true (by first | (with_reducible assumption) | assumption)
       have q534 : x10_1 < (l0.length : Int) := of_decide_eq_true (by first | (with_reducible assumption) | assumption)
       obtain ⟨ad534, e534, hx534_0, hx534_1⟩ := at_T70 HR0.out x10_1 p534 q534
       cases e534
       (try replace hx534_0 := (HB.out.cell (World.block_lt_of_cell? w _ hx534_0)).trans hx534_0)
       (try replace hx534_1 := (HB.out.cell (World.block_lt_of_cell? w _ hx534_1)).trans hx534_1)
       replace p534 := eq_true p534
       replace q534 := eq_true q534
       go_wp2_with (first | ((with_reducible refine gate_dst (N := 7) rfl ?_); refine box_event ?hg (N := 7) ?hd (cs := #[.int .u64 0, .int .u64 0]) (t := 70) ?hr ?_; (case hd => rfl); (case hg => rfl); (case hr => first | (go_simp; done) | (go_simp; rfl)); intro gb535 hg w7 hbox hb; have n0_ := Aside0.mk (Kd.R_below (Kd.R_elderB (by (with_reducible repeat (first | apply Kd.R_alloc | apply Kd.R_drewN | apply Kd.R_drew)); exact HO_5.out) gb535 (Nat.le_of_eq hg.symm)) hb); have n1_ := Aside0.mk (below_step (by repeat (first | (with_reducible first | exact HB.out | apply below_alloc | apply pw_below_drewN | apply below_drew1) | exact HB.out)) hb); have n2_ := Aside0.mk (hbox); have n3_ := Aside0.mk ((by rw [hg]; exact (below_size (by repeat (first | (with_reducible first | exact HB.out | apply below_alloc | apply pw_below_drewN | apply below_drew1) | exact HB.out))) : w.heap.size ≤ gb535)); have n4_ := Aside0.mk ((by rw [hg]; exact (below_size (by repeat (first | (with_reducible first | exact HB.out | apply below_alloc | apply pw_below_drewN | apply below_drew1) | exact HB.out))) : w.heap.size ≤ gb535)); clear HO_5; clear HB; have HO_5 := n0_; have HB := n1_; have BK535 := n2_; have GW535 := n3_; have GE535 := n4_; clear n0_ n1_ n2_ n3_ n4_; clear hb hbox hg; have hcz8_0 : w7.cell? ⟨gb535, 0, none⟩ = some (.int .u64 0) := (blk_cell BK535.out 0).trans rfl; have hcz8_1 : w7.cell? ⟨gb535, 1, none⟩ = some (.int .u64 0) := (blk_cell BK535.out 1).trans rfl; have hfz8_0 := blk_frozen BK535.out 0; have hfz8_1 := blk_frozen BK535.out 1) | ((with_reducible refine gate_builtin (b := .append) (xs := #[.tmp 14, .tmp 23]) rfl ?_); at_builtin; refine Kd.R_append k70 (w0 := w) w.heap.size rfl (.tmp 14) (.tmp 23) 29 70 (.agg #[(.int .u64 0), (.int .u64 0)]) 16 rfl Tryd.underlying29 info70 rfl (by decide) (by omega) u5 x5_1 (⟨IntKind.u64.wrap (((rd_T70 l0 x10_1).f0) + (IntKind.u64.wrap (a1))), (rd_T70 l0 x10_1).f1⟩ : S70) [.int .u64 (IntKind.u64.wrap (((rd_T70 l0 x10_1).f0) + (IntKind.u64.wrap (a1)))), .int .u64 ((rd_T70 l0 x10_1).f1)] (fun k_ => k_ ≠ gb535) (fun _ => False) rfl (by first | (go_simp; done) | (go_simp; rfl)) ?aP (fun _ hk => hk.elim) ?aF ?aO ?aB ?aS ?aL ?_; (case aP => exact k70_mkM _ _ _ (⟨IntKind.u64.wrap (((rd_T70 l0 x10_1).f0) + (IntKind.u64.wrap (a1))), (rd_T70 l0 x10_1).f1⟩ : S70)); (case aB => exact (by repeat (first | (with_reducible first | exact HB.out | apply below_alloc | apply pw_below_drewN | apply below_drew1 | refine below_set ?_ GE535.out) | exact HB.out))); (case aF => exact (fun k_ hk => Kd.freshB (g := gb535) (o := .cells #[.int .u64 ((rd_T70 l0 x10_1).f0), .int .u64 ((rd_T70 l0 x10_1).f1)] 70 (0, 0)) (by (with_reducible repeat (first | refine blk_drewN ?_ _ | refine blk_drew ?_ | refine blk_alloc ?_ _)); refine blk_put (cs := #[.int .u64 ((rd_T70 l0 x10_1).f0), .int .u64 0]) ?_ 1 _ rfl; (with_reducible repeat (first | refine blk_drewN ?_ _ | refine blk_drew ?_ | refine blk_alloc ?_ _)); refine blk_put (cs := #[.int .u64 0, .int .u64 0]) ?_ 0 _ rfl; (with_reducible repeat (first | refine blk_drewN ?_ _ | refine blk_drew ?_ | refine blk_alloc ?_ _)); exact BK535.out) k_ hk)); (case aO => exact (by (with_reducible repeat (first | apply Kd.R_alloc | apply Kd.R_drewN | apply Kd.R_drew)); exact Kd.R_mono (Kd.R_far (p := ⟨gb535, 1, none⟩) (Kd.R_far (p := ⟨gb535, 0, none⟩) (Kd.R_mono HO_5.out (fun k_ hk => (⟨hk, hk.2⟩ : _ ∧ k_ ≠ gb535))) (fun _ hk => hk.2) (.int .u64 ((rd_T70 l0 x10_1).f0))) (fun _ hk => hk.2) (.int .u64 ((rd_T70 l0 x10_1).f1))) (fun _ hk => hk.1.2))); (case aS => exact (below_size (by repeat (first | (with_reducible first | exact HB.out | apply below_alloc | apply pw_below_drewN | apply below_drew1 | refine below_set ?_ GE535.out) | exact HB.out)))); (case aL => have := LMc6.out; omega); intro v537 w9 ho hb hg hat; rw [← Ny536.out] at ho; have n0_ := Aside0.mk (blk_grown (g := gb535) (o := .cells #[.int .u64 ((rd_T70 l0 x10_1).f0), .int .u64 ((rd_T70 l0 x10_1).f1)] 70 (0, 0)) (by (with_reducible repeat (first | refine blk_drewN ?_ _ | refine blk_drew ?_ | refine blk_alloc ?_ _)); refine blk_put (cs := #[.int .u64 ((rd_T70 l0 x10_1).f0), .int .u64 0]) ?_ 1 _ rfl; (with_reducible repeat (first | refine blk_drewN ?_ _ | refine blk_drew ?_ | refine blk_alloc ?_ _)); refine blk_put (cs := #[.int .u64 0, .int .u64 0]) ?_ 0 _ rfl; (with_reducible repeat (first | refine blk_drewN ?_ _ | refine blk_drew ?_ | refine blk_alloc ?_ _)); exact BK535.out) hg (Kd.R_away HO_5.out (fun _ hk => hk.2))); have n1_ := Aside0.mk (hb); have n2_ := Aside0.mk (ho); clear BK535; clear HB; clear HO_5; have BK535 := n0_; have HB := n1_; have HO538 := n2_; clear n0_ n1_ n2_; clear ho hb hg hat))
       go_roundg k1
       case measure => have := HK1.out; omega
       case rel => exact ⟨(y536), (wrap64 (x10_1 + 1)), (by first | rfl | (simp; done) | (simp [*]; done)), H', ⟨by have := HK1.out; omega⟩, ⟨by (with_reducible repeat (first | apply Kd.R_alloc | apply Kd.R_drewN | apply Kd.R_drew)); exact Kd.R_mono HO538.out (fun _ hk => trivial)⟩, ⟨by repeat (first | (with_reducible first | exact HB.out | apply below_alloc | apply pw_below_drewN | apply below_drew1 | refine below_set ?_ GE535.out) | exact HB.out)⟩⟩
      ·rw [if_neg c6] at H
       exact absurd H (by simp)
     ·rw [if_neg c5] at H
      exact absurd H (by simp)
    ·rw [if_neg c4] at H
     exact absurd H (by simp)
   ·rw [if_neg c3] at H
    have c3b0 : decide (x10_1 < (l0.length : Int)) = false := decide_eq_false c3
    clear c3
    obtain rfl := Option.some.inj H
    go_wp2
    go_ret
    exact ⟨_, by first | rfl | (simp [errW_none, errW_some] <;> rfl) | (simp [*, errW_none, errW_some] <;> rfl), by (with_reducible repeat (first | apply Kd.R_alloc | apply Kd.R_drewN | apply Kd.R_drew)); exact HO_5.out, by repeat (first | (with_reducible first | exact HB.out | apply below_alloc | apply pw_below_drewN | apply below_drew1) | exact HB.out)⟩
def spec_SameNodes.l0 : Nat → List (S70) → List (S70) → Int → Int → Option (Bool)
 | 0, _, _, _, _ => none
 | k + 1, x0, x1, x12, x13 => if x13 < x12 then (if 0 ≤ x13 then (if x13 < (x0.length : Int) then (if x13 < (x1.length : Int) then (if (!(((rd_T70 x0 x13).f0) == ((rd_T70 x1 x13).f0)) || (!(((rd_T70 x0 x13).f1) == ((rd_T70 x1 x13).f1)))) = true then (some false) else (spec_SameNodes.l0 k x0 x1 x12 (wrap64 (x13 + 1)))) else (none)) else (none)) else (none)) else (some true)
def spec_SameNodes.f (k : Nat) (l0 : List (S70)) (l1 : List (S70)) : Option (Bool) := if (l0.length : Int) = (l1.length : Int) then (spec_SameNodes.l0 k l0 l1 (l0.length : Int) 0) else (some false)
theorem spec_SameNodes.mono_l : ∀ k, (∀ y0 y1 y2 y3, LeO (spec_SameNodes.l0 k y0 y1 y2 y3) (spec_SameNodes.l0 (k + 1) y0 y1 y2 y3))
 | 0 => fun _ _ _ _ r h => by simp [spec_SameNodes.l0] at h
 | k + 1 => by
  have ih0 := spec_SameNodes.mono_l k
  ·intro y0 y1 y2 y3
   unfold spec_SameNodes.l0
   repeat' first
   | (with_reducible exact ih0 _ _ _ _)
   | (with_reducible exact LeO.refl _)
   | (with_reducible exact LeO.none _)
   | (with_reducible refine LeO.ite ?_ ?_)
   | (with_reducible refine LeO.bind ?_ (fun _ => ?_))
   | exact ih0 _ _ _ _
   | exact LeO.none _
   | refine LeO.ite ?_ ?_
   | refine LeO.bind ?_ (fun _ => ?_)
theorem spec_SameNodes.mono : ∀ a0 a1 k, LeO (spec_SameNodes.f k a0 a1) (spec_SameNodes.f (k + 1) a0 a1) := by
 intro a0 a1 k
 have ih0 := spec_SameNodes.mono_l k
 unfold spec_SameNodes.f
 repeat' first
   | (with_reducible exact ih0 _ _ _ _)
   | (with_reducible exact LeO.refl _)
   | (with_reducible exact LeO.none _)
   | (with_reducible refine LeO.ite ?_ ?_)
   | (with_reducible refine LeO.bind ?_ (fun _ => ?_))
   | exact ih0 _ _ _ _
   | exact LeO.none _
   | refine LeO.ite ?_ ?_
   | refine LeO.bind ?_ (fun _ => ?_)
set_option maxHeartbeats 8000000 in
set_option maxRecDepth 100000 in
theorem spec_SameNodes.calls (k : Nat) (A0 : Option Addr) (c0 : Nat) (l0 : List (S70)) (A1 : Option Addr) (c1 : Nat) (l1 : List (S70)) (r : Bool) (w : World) (hr0 : Kd.C k70 w A0 l0.length l0) (hc0 : l0.length ≤ c0) (hr1 : Kd.C k70 w A1 l1.length l1) (hc1 : l1.length ≤ c1) (h : spec_SameNodes.f k l0 l1 = some r) :
  Calls Tryd.prog 17 #[.slice A0 l0.length c0, .slice A1 l1.length c1] w fun e w' => e = .returned (.bool r) ∧ Drawn0 w w' := by
 have hu70 := Tryd.underlying70
 have HR0 := Aside0.mk hr0
 have HC0 := Aside0.mk hc0
 clear hr0 hc0
 have HR1 := Aside0.mk hr1
 have HC1 := Aside0.mk hc1
 clear hr1 hc1
 have H : (if (l0.length : Int) = (l1.length : Int) then (spec_SameNodes.l0 k l0 l1 (l0.length : Int) 0) else (some false)) = some r := h
 clear h
 by_cases c3 : (l0.length : Int) = (l1.length : Int)
 ·rw [if_pos c3] at H
  have c3b0 : ((l0.length : Int) == (l1.length : Int)) = true := beq_iff_eq.mpr c3
  have c3b1 : ((l0.length : Int) != (l1.length : Int)) = false := bne_eq_false_iff_eq.mpr c3
  have c3b2 : (l0.length == l1.length) = true := by first | simpa using c3 | (simp at c3 ⊢; omega)
  clear c3
  have H' := Aside0.mk H
  clear H
  go_enter Tryd.func17, Tryd.ntmps17
  go_wp2
  repeat (go_quiet (fail); try go_wp2)
  try simp only [Act.put, List.setIfInBounds_toArray, List.set_cons_zero, List.set_cons_succ]
  go_loopg [13] k (fun kq v13 w' => ∃ (x13_1 : Int), v13 = .int .i64 x13_1 ∧ Aside0 (spec_SameNodes.l0 kq l0 l1 (l0.length : Int) x13_1 = some r) ∧ Aside0 (kq ≤ k) ∧ Drawn0 w w')
  case atStart => exact ⟨(0), (by first | rfl | (simp; done) | (simp [*]; done)), H', ⟨Nat.le_refl _⟩, by repeat (first | exact Drawn0.refl _ | apply Drawn0.step)⟩
  case round =>
   clear H'
   try clear c1
   try clear p2
   try clear c3
   try clear c3b0
   try clear c3b1
   try clear c3b2
   obtain ⟨x13_1, rfl, HA, HK1, ⟨m1, rfl⟩⟩ := hrel
   cases gk with
   | zero => exact absurd HA.out (by simp [spec_SameNodes.l0])
   | succ k1 =>
    have H := HA.out
    clear HA
    simp only [spec_SameNodes.l0] at H
    by_cases c4 : x13_1 < (l0.length : Int)
    ·rw [if_pos c4] at H
     have c4b0 : decide (x13_1 < (l0.length : Int)) = true := decide_eq_true c4
     clear c4
     by_cases c5 : 0 ≤ x13_1
     ·rw [if_pos c5] at H
      have c5b0 : decide (0 ≤ x13_1) = true := decide_eq_true c5
      clear c5
      by_cases c6 : x13_1 < (l0.length : Int)
      ·rw [if_pos c6] at H
       have c6b0 : decide (x13_1 < (l0.length : Int)) = true := decide_eq_true c6
       clear c6
       by_cases c7 : x13_1 < (l1.length : Int)
       ·rw [if_pos c7] at H
        have c7b0 : decide (x13_1 < (l1.length : Int)) = true := decide_eq_true c7
        clear c7
        by_cases c8 : (!(((rd_T70 l0 x13_1).f0) == ((rd_T70 l1 x13_1).f0)) || (!(((rd_T70 l0 x13_1).f1) == ((rd_T70 l1 x13_1).f1)))) = true
        ·rw [if_pos c8] at H
         have c8b0 : (!(((rd_T70 l0 x13_1).f0) == ((rd_T70 l1 x13_1).f0)) || (!(((rd_T70 l0 x13_1).f1) == ((rd_T70 l1 x13_1).f1)))) = true := c8
         clear c8
         obtain rfl := Option.some.inj H
         have p539 : 0 ≤ (x13_1 : Int) := of_decide_eq_true (by first | (with_reducible assumption) | assumption)
         have q539 : x13_1 < (l0.length : Int) := of_decide_eq_true (by first | (with_reducible assumption) | assumption)
         obtain ⟨ad539, e539, hx539_0, hx539_1⟩ := at_T70 HR0.out x13_1 p539 q539
         cases e539
         replace p539 := eq_true p539
         replace q539 := eq_true q539
         have p540 : 0 ≤ (x13_1 : Int) := of_decide_eq_true (by first | (with_reducible assumption) | assumption)
         have q540 : x13_1 < (l1.length : Int) := of_decide_eq_true (by first | (with_reducible assumption) | assumption)
         obtain ⟨ad540, e540, hx540_0, hx540_1⟩ := at_T70 HR1.out x13_1 p540 q540
         cases e540
         replace p540 := eq_true p540
         replace q540 := eq_true q540
         go_wp2
         repeat (go_quiet (fail); try go_wp2)
         go_ret
         exact ⟨by first | rfl | (simp; done) | (simp [*]; done), by repeat (first | exact Drawn0.refl _ | apply Drawn0.step)⟩
        ·rw [if_neg c8] at H
         have c8b0 : (!(((rd_T70 l0 x13_1).f0) == ((rd_T70 l1 x13_1).f0)) || (!(((rd_T70 l0 x13_1).f1) == ((rd_T70 l1 x13_1).f1)))) = false := by simpa using c8
         clear c8
         have H' := Aside0.mk H
         clear H
         have p539 : 0 ≤ (x13_1 : Int) := of_decide_eq_true (by first | (with_reducible assumption) | assumption)
         have q539 : x13_1 < (l0.length : Int) := of_decide_eq_true (by first | (with_reducible assumption) | assumption)
         obtain ⟨ad539, e539, hx539_0, hx539_1⟩ := at_T70 HR0.out x13_1 p539 q539
         cases e539
         replace p539 := eq_true p539
         replace q539 := eq_true q539
         have p540 : 0 ≤ (x13_1 : Int) := of_decide_eq_true (by first | (with_reducible assumption) | assumption)
         have q540 : x13_1 < (l1.length : Int) := of_decide_eq_true (by first | (with_reducible assumption) | assumption)
         obtain ⟨ad540, e540, hx540_0, hx540_1⟩ := at_T70 HR1.out x13_1 p540 q540
         cases e540
         replace p540 := eq_true p540
         replace q540 := eq_true q540
         go_wp2
         repeat (go_quiet (fail); try go_wp2)
         go_roundg k1
         case measure => have := HK1.out; omega
         case rel => exact ⟨(wrap64 (x13_1 + 1)), (by first | rfl | (simp; done) | (simp [*]; done)), H', ⟨by have := HK1.out; omega⟩, by repeat (first | exact Drawn0.refl _ | apply Drawn0.step)⟩
       ·rw [if_neg c7] at H
        exact absurd H (by simp)
      ·rw [if_neg c6] at H
       exact absurd H (by simp)
     ·rw [if_neg c5] at H
      exact absurd H (by simp)
    ·rw [if_neg c4] at H
     have c4b0 : decide (x13_1 < (l0.length : Int)) = false := decide_eq_false c4
     clear c4
     obtain rfl := Option.some.inj H
     go_wp2
     repeat (go_quiet (fail); try go_wp2)
     go_ret
     exact ⟨by first | rfl | (simp; done) | (simp [*]; done), by repeat (first | exact Drawn0.refl _ | apply Drawn0.step)⟩
 ·rw [if_neg c3] at H
  have c3b0 : ((l0.length : Int) == (l1.length : Int)) = false := beq_eq_false_iff_ne.mpr c3
  have c3b1 : ((l0.length : Int) != (l1.length : Int)) = true := bne_iff_ne.mpr c3
  have c3b2 : (l0.length == l1.length) = false := by first | simpa using c3 | (simp at c3 ⊢; omega)
  obtain rfl := Option.some.inj H
  go_enter Tryd.func17, Tryd.ntmps17
  go_wp2
  repeat (go_quiet (fail); try go_wp2)
  go_ret
  exact ⟨by first | rfl | (simp; done) | (simp [*]; done), by repeat (first | exact Drawn0.refl _ | apply Drawn0.step)⟩
end Go.Proofs.YtijldedhcjkhiaaDoor.Z
