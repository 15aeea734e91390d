-- laid by xprint.py (a program of this session over the kit's print); Lean checks it
import Derived.Test.YtijldedhcjkhiaaDoorX0
import Derived.Test.YtijldedhcjkhiaaDoorX2
namespace Go.Proofs.YtijldedhcjkhiaaDoor.X
open Go.RowKit Go.Proofs.YtijldedhcjkhiaaDoorW.PrintWords Go.Proofs.YtijldedhcjkhiaaDoorW.PrintLast Go.Proofs.YtijldedhcjkhiaaDoorW.PrintMore
attribute [local go_sem] max2_int min2_int max_two min_two max_three min_three max_four min_four   -- for this text's walks alone
set_option linter.unusedVariables false
set_option linter.unusedSimpArgs false

/-! ### spec_MergedLevels: function 16 -/
mutual
def spec_MergedLevels.l0 : Nat → List Int → List (S70) → List (S70) → Int → Int → Option (List Int)
  | 0, _, _, _, _, _ => none
  | k + 1, x7, x8, x19, x20, x21 => if x21 < x20 then (if 0 ≤ x21 then (if x21 < (x19.length : Int) then ((some (([(⟨(rd_T70 x19 x21).f0, (rd_T70 x19 x21).f1⟩ : S70)] : List (S70)) : List (S70))).bind fun y127 => (if x8.length + y127.length < 8796093022208 then ((some (x8 ++ y127 : List (S70))).bind fun y130 => (spec_MergedLevels.l1 k x7 y130 (y130.length : Int) x19 x20 x21 ((rd_T70 x19 x21).f0) ((rd_T70 x19 x21).f1))) else (none))) else (none)) else (none)) else (some x7)
def spec_MergedLevels.l1 : Nat → List Int → List (S70) → Int → List (S70) → Int → Int → Int → Int → Option (List Int)
  | 0, _, _, _, _, _, _, _, _ => none
  | k + 1, x7, x8, x11, x19, x20, x21, x127000, x127001 => if x11 > 1 then (if 0 ≤ (wrap64 (x11 - 2)) then (if (wrap64 (x11 - 2)) < (x8.length : Int) then (if ((rd_T70 x8 (wrap64 (x11 - 2))).f0) = x127000 then (if (Int.tmod ((rd_T70 x8 (wrap64 (x11 - 2))).f1) 2) = 0 then (if (wrap64 (x11 - 2)) ≤ (x8.length : Int) then ((some (x8.take ((wrap64 (x11 - 2)) : Int).toNat : List (S70))).bind fun y135 => ((some (([(⟨IntKind.u64.wrap (x127000 + 1), IntKind.u64.wrap (Int.tdiv x127001 2)⟩ : S70)] : List (S70)) : List (S70))).bind fun y138 => (if y135.length + y138.length < 8796093022208 then ((some (y135 ++ y138 : List (S70))).bind fun y141 => ((some (([IntKind.u64.wrap (x127000 + 1)] : List Int) : List Int)).bind fun y144 => (if x7.length + y144.length < 17592186044416 then (spec_MergedLevels.l1 k (x7 ++ y144) y141 (y141.length : Int) x19 x20 x21 (IntKind.u64.wrap (x127000 + 1)) (IntKind.u64.wrap (Int.tdiv x127001 2))) else (none)))) else (none)))) else (none)) else (spec_MergedLevels.l0 k x7 x8 x19 x20 (wrap64 (x21 + 1)))) else (spec_MergedLevels.l0 k x7 x8 x19 x20 (wrap64 (x21 + 1)))) else (none)) else (none)) else (spec_MergedLevels.l0 k x7 x8 x19 x20 (wrap64 (x21 + 1)))
end
def spec_MergedLevels.f (k : Nat) (a0 : Int) (a1 : Int) (a2 : Int) : Option (List Int) := (spec_Nodes.f k a0 a1).bind fun t119 => ((spec_Nodes.f k a1 a2).bind fun t122 => (spec_MergedLevels.l0 k ([] : List Int) t119 t122 (t122.length : Int) 0))
theorem spec_MergedLevels.mono_l : ∀ k, (∀ y0 y1 y2 y3 y4, LeO (spec_MergedLevels.l0 k y0 y1 y2 y3 y4) (spec_MergedLevels.l0 (k + 1) y0 y1 y2 y3 y4)) ∧ (∀ y0 y1 y2 y3 y4 y5 y6 y7, LeO (spec_MergedLevels.l1 k y0 y1 y2 y3 y4 y5 y6 y7) (spec_MergedLevels.l1 (k + 1) y0 y1 y2 y3 y4 y5 y6 y7))
  | 0 => ⟨fun _ _ _ _ _ r h => by simp [spec_MergedLevels.l0] at h, fun _ _ _ _ _ _ _ _ r h => by simp [spec_MergedLevels.l1] at h⟩
  | k + 1 => by
    obtain ⟨ih0, ih1⟩ := spec_MergedLevels.mono_l k
    refine ⟨?_, ?_⟩
    · intro y0 y1 y2 y3 y4
      unfold spec_MergedLevels.l0
      repeat' first
      | (with_reducible exact ih0 _ _ _ _ _)
      | (with_reducible exact ih1 _ _ _ _ _ _ _ _)
      | (with_reducible exact spec_Nodes.mono _ _ _)
      | (with_reducible exact LeO.refl _)
      | (with_reducible exact LeO.none _)
      | (with_reducible refine LeO.ite ?_ ?_)
      | (with_reducible refine LeO.bind ?_ (fun _ => ?_))
      | exact ih0 _ _ _ _ _
      | exact ih1 _ _ _ _ _ _ _ _
      | exact spec_Nodes.mono _ _ _
      | exact LeO.none _
      | refine LeO.ite ?_ ?_
      | refine LeO.bind ?_ (fun _ => ?_)
    · intro y0 y1 y2 y3 y4 y5 y6 y7
      unfold spec_MergedLevels.l1
      repeat' first
      | (with_reducible exact ih0 _ _ _ _ _)
      | (with_reducible exact ih1 _ _ _ _ _ _ _ _)
      | (with_reducible exact spec_Nodes.mono _ _ _)
      | (with_reducible exact LeO.refl _)
      | (with_reducible exact LeO.none _)
      | (with_reducible refine LeO.ite ?_ ?_)
      | (with_reducible refine LeO.bind ?_ (fun _ => ?_))
      | exact ih0 _ _ _ _ _
      | exact ih1 _ _ _ _ _ _ _ _
      | exact spec_Nodes.mono _ _ _
      | exact LeO.none _
      | refine LeO.ite ?_ ?_
      | refine LeO.bind ?_ (fun _ => ?_)
theorem spec_MergedLevels.mono : ∀ a0 a1 a2 k, LeO (spec_MergedLevels.f k a0 a1 a2) (spec_MergedLevels.f (k + 1) a0 a1 a2) := by
  intro a0 a1 a2 k
  obtain ⟨ih0, ih1⟩ := spec_MergedLevels.mono_l k
  unfold spec_MergedLevels.f
  repeat' first
      | (with_reducible exact ih0 _ _ _ _ _)
      | (with_reducible exact ih1 _ _ _ _ _ _ _ _)
      | (with_reducible exact spec_Nodes.mono _ _ _)
      | (with_reducible exact LeO.refl _)
      | (with_reducible exact LeO.none _)
      | (with_reducible refine LeO.ite ?_ ?_)
      | (with_reducible refine LeO.bind ?_ (fun _ => ?_))
      | exact ih0 _ _ _ _ _
      | exact ih1 _ _ _ _ _ _ _ _
      | exact spec_Nodes.mono _ _ _
      | exact LeO.none _
      | refine LeO.ite ?_ ?_
      | refine LeO.bind ?_ (fun _ => ?_)
def spec_MergedLevels.T8 : Bool × List (List Nat × List Nat) := (true, [([], []), ([0], [0]), ([1], [1]), ([2], [2]), ([2], [2]), ([4, 2], [2, 4]), ([3, 5, 2], [2, 3, 5]), ([6, 2], [2, 6]), ([7, 2], [2, 7]), ([2], [2]), ([9, 2], [2, 9]), ([8, 10, 2], [2, 8, 10]), ([2, 11], [2, 11]), ([12, 2], [12]), ([13], [13]), ([13], [13]), ([15, 13], [13, 15]), ([14, 16, 13], [13, 14, 16]), ([17, 13], [13, 17]), ([18, 13], [13, 18]), ([19, 13], [13, 19]), ([20, 13], [13, 20]), ([13, 21], [13, 21])])
def spec_MergedLevels.B8 : List Nat := [0, 1, 3, 7, 7, 23, 63, 127, 255, 7, 519, 2047, 4095, 8191, 16383, 16383, 49151, 131071, 262143, 524287, 1048575, 2097151, 4194303]
theorem spec_MergedLevels.tab8 : rtab .any (opsOf Tryd.f16 8) = spec_MergedLevels.T8 := by kernel_rfl
theorem spec_MergedLevels.bits8 : waitsOk spec_MergedLevels.T8.2 spec_MergedLevels.B8 = true := by kernel_rfl
def spec_MergedLevels.T11 : Bool × List (List Nat × List Nat) := (true, [([], []), ([], []), ([1], [1]), ([0, 2], [0, 2]), ([], []), ([4], [4]), ([3, 5], [3, 5]), ([], []), ([], []), ([8], [8]), ([9], [9]), ([7, 10, 6], [7, 10]), ([6, 11, 0, 1, 2, 3, 4, 5, 6], [0, 6]), ([11, 12, 0, 1, 2, 3, 4, 5, 6, 7, 8, 9, 10, 11, 12], [7, 11])])
def spec_MergedLevels.B11 : List Nat := [0, 0, 2, 7, 0, 16, 63, 0, 0, 256, 768, 2047, 4095, 8191]
theorem spec_MergedLevels.tab11 : rtab .any (opsOf Tryd.f16 11) = spec_MergedLevels.T11 := by kernel_rfl
theorem spec_MergedLevels.bits11 : waitsOk spec_MergedLevels.T11.2 spec_MergedLevels.B11 = true := by kernel_rfl
set_option maxHeartbeats 8000000 in
set_option maxRecDepth 100000 in
theorem spec_MergedLevels.calls (k : Nat) (a0 : Int) (a1 : Int) (a2 : Int) (r : List Int) (w : World) (h : spec_MergedLevels.f k a0 a1 a2 = some r) :
    Calls Tryd.prog 16 #[.int .u64 a0, .int .u64 a1, .int .u64 a2] w fun e w' => ∃ v0_ : Value, e = .returned (v0_) ∧ Kd.R (Kd.int .u64) 23 w' w.heap.size (fun _ => True) v0_ r ∧ Below w.heap.size w w' := by
  have hu34 := Tryd.underlying34
  have hu70 := Tryd.underlying70
  have HB := Aside0.mk (Below.refl w.heap.size w)
  have H : ((spec_Nodes.f k a0 a1).bind fun t119 => ((spec_Nodes.f k a1 a2).bind fun t122 => (spec_MergedLevels.l0 k ([] : List Int) t119 t122 (t122.length : Int) 0))) = some r := h
  clear h
  replace H := Option.bind_eq_some_iff.mp H
  obtain ⟨t119, A40, H⟩ := H
  replace H : ((spec_Nodes.f k a1 a2).bind fun t122 => (spec_MergedLevels.l0 k ([] : List Int) t119 t122 (t122.length : Int) 0)) = some r := H
  have A4 := Aside0.mk A40
  clear A40
  replace H := Option.bind_eq_some_iff.mp H
  obtain ⟨t122, A50, H⟩ := H
  replace H : (spec_MergedLevels.l0 k ([] : List Int) t119 t122 (t122.length : Int) 0) = some r := H
  have A5 := Aside0.mk A50
  clear A50
  have H' := Aside0.mk H
  clear H
  go_enter Tryd.func16, Tryd.ntmps16
  go_wp2_with (first | ((with_reducible refine gate_callee (f := 20) rfl ?_); refine goesL_ (some 15) rfl rfl Tryd.func20 (by kernel_rfl) rfl #[.agg #[.int .u64 a0, .int .u64 a1]] rfl (by (try simp only [List.map_toArray, List.map_cons, List.map_nil]); first | done | rfl | (simp only [List.length_drop, List.length_take]; rfl)) ?_; (with_reducible refine (spec_Nodes.calls k a0 a1 t119 _ A4.out).mono ?_); rintro e w6 ⟨v120, rfl, ho0, hb⟩; refine ⟨_, rfl, ?_⟩; have n0_ := Aside0.mk (Kd.R_lower ho0 (below_size (by repeat (first | (with_reducible first | exact HB.out | apply below_alloc | apply pw_below_drewN | apply below_drew1) | exact HB.out)))); have n1_ := Aside0.mk (below_step (by repeat (first | (with_reducible first | exact HB.out | apply below_alloc | apply pw_below_drewN | apply below_drew1) | exact HB.out)) hb); clear HB; have HO121 := n0_; have HB := n1_; clear n0_ n1_; (try clear hb); (try clear hb2); (try clear hk); (try clear hi); (try clear ho0)) | ((with_reducible refine gate_callee (f := 20) rfl ?_); refine goesL_ (some 19) rfl rfl Tryd.func20 (by kernel_rfl) rfl #[.agg #[.int .u64 a1, .int .u64 a2]] rfl (by (try simp only [List.map_toArray, List.map_cons, List.map_nil]); first | done | rfl | (simp only [List.length_drop, List.length_take]; rfl)) ?_; (with_reducible refine (spec_Nodes.calls k a1 a2 t122 _ A5.out).mono ?_); rintro e w7 ⟨v123, rfl, ho0, hb⟩; refine ⟨_, rfl, ?_⟩; have n0_ := Aside0.mk (Kd.R_elder' (by (with_reducible repeat (first | apply Kd.R_alloc | apply Kd.R_drewN | apply Kd.R_drew)); exact HO121.out) (Kd.R_base ho0) hb); have n1_ := Aside0.mk (Kd.R_lower (Kd.R_new' ho0 (Kd.R_lt (by (with_reducible repeat (first | apply Kd.R_alloc | apply Kd.R_drewN | apply Kd.R_drew)); exact HO121.out))) (below_size (by repeat (first | (with_reducible first | exact HB.out | apply below_alloc | apply pw_below_drewN | apply below_drew1) | exact HB.out)))); have n2_ := Aside0.mk (below_step (by repeat (first | (with_reducible first | exact HB.out | apply below_alloc | apply pw_below_drewN | apply below_drew1) | exact HB.out)) hb); clear HO121; clear HB; have HO121 := n0_; have HO124 := n1_; have HB := n2_; clear n0_ n1_ n2_; (try clear hb); (try clear hb2); (try clear hk); (try clear hi); (try clear ho0); obtain ⟨Ao8, co8, eo8⟩ := Kd.R_slice HO124.out; subst eo8))
  try simp only [Act.put, List.setIfInBounds_toArray, List.set_cons_zero, List.set_cons_succ]
  go_loopg [7, 8, 21] k (fun kq v7 v8 v21 w' => ∃ (x7_1 : List Int) (x8_1 : List (S70)) (x21_1 : Int), v21 = .int .i64 x21_1 ∧ Aside0 (spec_MergedLevels.l0 kq x7_1 x8_1 t122 (t122.length : Int) x21_1 = some r) ∧ Aside0 (kq ≤ k) ∧ Aside0 (Kd.R (Kd.int .u64) 23 w' w.heap.size (fun _ => True) v7 x7_1) ∧ Aside0 (Kd.R k70 70 w' w.heap.size (fun k_ => some k_ ≠ ((.slice Ao8 t122.length co8) : Value).ownBlock) v8 x8_1) ∧ Aside0 (Kd.R k70 70 w' w.heap.size (fun k_ => some k_ ≠ (v8 : Value).ownBlock) (.slice Ao8 t122.length co8) t122) ∧ Aside0 (Below w.heap.size w w'))
  case atStart => exact ⟨(([] : List Int)), (t119), (0), (by first | rfl | (simp; done) | (simp [*]; done)), H', ⟨Nat.le_refl _⟩, ⟨by first | exact Kd.R_nil _ _ _ _ _ | exact Kd.N_nil _ _ _ _ _ | exact Kd.V_nil _ _ _ _ _ | exact Kd.Q_nil _ _ _ _ _ | exact Kd.S_nil _ _ _ _ _⟩, ⟨by (with_reducible repeat (first | apply Kd.R_alloc | apply Kd.R_drewN | apply Kd.R_drew)); exact Kd.R_mono HO121.out (fun _ hk => hk.2)⟩, ⟨by (with_reducible repeat (first | apply Kd.R_alloc | apply Kd.R_drewN | apply Kd.R_drew)); exact Kd.R_mono HO124.out (fun _ hk => hk.2)⟩, ⟨by repeat (first | (with_reducible first | exact HB.out | apply below_alloc | apply pw_below_drewN | apply below_drew1) | exact HB.out)⟩⟩
  case round =>
    clear H'
    try clear c1
    try clear c2
    try clear p2
    obtain ⟨x7_1, x8_1, x21_1, rfl, HA, HK1, HO_7, HO_8, HO_19, HB⟩ := hrel
    cases gk with
    | zero => exact absurd HA.out (by simp [spec_MergedLevels.l0])
    | succ k1 =>
      have H := HA.out
      clear HA
      simp only [spec_MergedLevels.l0] at H
      by_cases c9 : x21_1 < (t122.length : Int)
      · rw [if_pos c9] at H
        have c9b0 : decide (x21_1 < (t122.length : Int)) = true := decide_eq_true c9
        clear c9
        by_cases c10 : 0 ≤ x21_1
        · rw [if_pos c10] at H
          have c10b0 : decide (0 ≤ x21_1) = true := decide_eq_true c10
          clear c10
          by_cases c11 : x21_1 < (t122.length : Int)
          · rw [if_pos c11] at H
            have c11b0 : decide (x21_1 < (t122.length : Int)) = true := decide_eq_true c11
            clear c11
            obtain ⟨y127, hy127⟩ : ∃ y_ : List (S70), y_ = (([(⟨(rd_T70 t122 x21_1).f0, (rd_T70 t122 x21_1).f1⟩ : S70)] : List (S70))) := ⟨_, rfl⟩
            replace H : (if x8_1.length + y127.length < 8796093022208 then ((some (x8_1 ++ y127 : List (S70))).bind fun y130 => (spec_MergedLevels.l1 k1 x7_1 y130 (y130.length : Int) t122 (t122.length : Int) x21_1 ((rd_T70 t122 x21_1).f0) ((rd_T70 t122 x21_1).f1))) else (none)) = some r := by first | (rw [hy127]; with_reducible exact H) | (have H2_ := (Option.bind_some _ _).symm.trans H; rw [hy127]; with_reducible exact H2_) | (have H2_ := (Option.bind_some _ _).symm.trans H; with_reducible exact H2_) | with_reducible exact H | (rw [hy127]; exact H) | exact H
            have Ny127 := Aside0.mk hy127
            clear hy127
            by_cases c12 : x8_1.length + y127.length < 8796093022208
            · rw [if_pos c12] at H
              have LMc12 := Aside0.mk c12
              clear c12
              obtain ⟨y130, hy130⟩ : ∃ y_ : List (S70), y_ = (x8_1 ++ y127) := ⟨_, rfl⟩
              replace H : (spec_MergedLevels.l1 k1 x7_1 y130 (y130.length : Int) t122 (t122.length : Int) x21_1 ((rd_T70 t122 x21_1).f0) ((rd_T70 t122 x21_1).f1)) = some r := by first | (rw [hy130]; with_reducible exact H) | (have H2_ := (Option.bind_some _ _).symm.trans H; rw [hy130]; with_reducible exact H2_) | (have H2_ := (Option.bind_some _ _).symm.trans H; with_reducible exact H2_) | with_reducible exact H | (rw [hy130]; exact H) | exact H
              have Ny130 := Aside0.mk hy130
              clear hy130
              have H' := Aside0.mk H
              clear H
              have p125 : 0 ≤ (x21_1 : Int) := of_decide_eq_true (by first | (with_reducible assumption) | assumption)
              have q125 : x21_1 < (t122.length : Int) := of_decide_eq_true (by first | (with_reducible assumption) | assumption)
              obtain ⟨ad125, e125, hx125_0, hx125_1⟩ := at_T70 (Kd.R_reads' HO_19.out).2.2 x21_1 p125 q125
              cases e125
              replace p125 := eq_true p125
              replace q125 := eq_true q125
              go_wp2_with (first | ((with_reducible refine gate_dst (N := 10) rfl ?_); refine box_event ?hg (N := 10) ?hd (cs := #[.int .u64 0, .int .u64 0]) (t := 70) ?hr ?_; (case hd => rfl); (case hg => rfl); (case hr => first | (go_simp; done) | (go_simp; rfl)); intro gb126 hg w13 hbox hb; have n0_ := Aside0.mk (Kd.R_below (by (with_reducible repeat (first | apply Kd.R_alloc | apply Kd.R_drewN | apply Kd.R_drew)); exact HO_7.out) hb); have n1_ := Aside0.mk (Kd.R_below (Kd.R_elderB (by (with_reducible repeat (first | apply Kd.R_alloc | apply Kd.R_drewN | apply Kd.R_drew)); exact HO_8.out) gb126 (Nat.le_of_eq hg.symm)) hb); have n2_ := Aside0.mk (Kd.R_below (Kd.R_elderB (by (with_reducible repeat (first | apply Kd.R_alloc | apply Kd.R_drewN | apply Kd.R_drew)); exact HO_19.out) gb126 (Nat.le_of_eq hg.symm)) hb); have n3_ := Aside0.mk (below_step (by repeat (first | (with_reducible first | exact HB.out | apply below_alloc | apply pw_below_drewN | apply below_drew1) | exact HB.out)) hb); have n4_ := Aside0.mk (hbox); have n5_ := Aside0.mk ((by rw [hg]; exact (below_size (by repeat (first | (with_reducible first | exact HB.out | apply below_alloc | apply pw_below_drewN | apply below_drew1) | exact HB.out))) : w.heap.size ≤ gb126)); have n6_ := Aside0.mk ((by rw [hg]; exact (below_size (by repeat (first | (with_reducible first | exact HB.out | apply below_alloc | apply pw_below_drewN | apply below_drew1) | exact HB.out))) : w.heap.size ≤ gb126)); clear HO_7; clear HO_8; clear HO_19; clear HB; have HO_7 := n0_; have HO_8 := n1_; have HO_19 := n2_; have HB := n3_; have BK126 := n4_; have GW126 := n5_; have GE126 := n6_; clear n0_ n1_ n2_ n3_ n4_ n5_ n6_; clear hb hbox hg; have hcz14_0 : w13.cell? ⟨gb126, 0, none⟩ = some (.int .u64 0) := (blk_cell BK126.out 0).trans rfl; have hcz14_1 : w13.cell? ⟨gb126, 1, none⟩ = some (.int .u64 0) := (blk_cell BK126.out 1).trans rfl; have hfz14_0 := blk_frozen BK126.out 0; have hfz14_1 := blk_frozen BK126.out 1) | ((with_reducible refine gate_dst (N := 27) rfl ?_); refine Kd.R_lit k70 _ 70 ?hg (N := 27) ?hd (xs := ([(⟨(rd_T70 t122 x21_1).f0, (rd_T70 t122 x21_1).f1⟩ : S70)] : List (S70))) (inner := [.int .u64 ((rd_T70 t122 x21_1).f0), .int .u64 ((rd_T70 t122 x21_1).f1)]) (ok := fun _ => True) (okp := fun _ => True) ?hr ?hp (fun _ hk => hk) trivial (Below.refl _ _) (Nat.le_refl _) (by simp) ?_; (case hd => rfl); (case hg => rfl); (case hr => first | (go_simp; done) | (go_simp; rfl)); (case hp => exact (Reps.c2 (show Kd.M k70 _ _ _ (⟨(rd_T70 t122 x21_1).f0, (rd_T70 t122 x21_1).f1⟩ : S70) [.int .u64 ((rd_T70 t122 x21_1).f0), .int .u64 ((rd_T70 t122 x21_1).f1)] from (k70_mkM _ _ _ (⟨(rd_T70 t122 x21_1).f0, (rd_T70 t122 x21_1).f1⟩ : S70) )) (Reps.none _ _))); intro v128 w15 ho16 hb hg_ hnew_; clear hg_ hnew_; (first | rw [← Ny127.out] at ho16 | (simp only [Int.reduceToNat] at ho16; rw [← Ny127.out] at ho16)); have n0_ := Aside0.mk (Kd.R_below (by (with_reducible repeat (first | apply Kd.R_alloc | apply Kd.R_drewN | apply Kd.R_drew)); exact (Kd.R_mono (Kd.R_far (p := ⟨gb126, 1, none⟩) (Kd.R_far (p := ⟨gb126, 0, none⟩) (Kd.R_types HO_7.out BK126.out (by decide)) (fun _ hk => hk.2) (.int .u64 ((rd_T70 t122 x21_1).f0))) (fun _ hk => hk.2) (.int .u64 ((rd_T70 t122 x21_1).f1))) (fun _ h_ => h_.1))) hb); have n1_ := Aside0.mk (Kd.R_elder' (by (with_reducible repeat (first | apply Kd.R_alloc | apply Kd.R_drewN | apply Kd.R_drew)); exact (Kd.R_mono (Kd.R_far (p := ⟨gb126, 1, none⟩) (Kd.R_far (p := ⟨gb126, 0, none⟩) (Kd.R_mono HO_8.out (fun k_ hk => (⟨hk, hk.2⟩ : _ ∧ k_ ≠ gb126))) (fun _ hk => hk.2) (.int .u64 ((rd_T70 t122 x21_1).f0))) (fun _ hk => hk.2) (.int .u64 ((rd_T70 t122 x21_1).f1))) (fun _ h_ => h_.1))) (Kd.R_base ho16) hb); have n2_ := Aside0.mk (Kd.R_elder' (by (with_reducible repeat (first | apply Kd.R_alloc | apply Kd.R_drewN | apply Kd.R_drew)); exact (Kd.R_mono (Kd.R_far (p := ⟨gb126, 1, none⟩) (Kd.R_far (p := ⟨gb126, 0, none⟩) (Kd.R_mono HO_19.out (fun k_ hk => (⟨hk, hk.2⟩ : _ ∧ k_ ≠ gb126))) (fun _ hk => hk.2) (.int .u64 ((rd_T70 t122 x21_1).f0))) (fun _ hk => hk.2) (.int .u64 ((rd_T70 t122 x21_1).f1))) (fun _ h_ => h_.1))) (Kd.R_base ho16) hb); have n3_ := Aside0.mk (Kd.R_lower (Kd.R_newB (Kd.R_new' (Kd.R_new' ho16 (Kd.R_lt (by (with_reducible repeat (first | apply Kd.R_alloc | apply Kd.R_drewN | apply Kd.R_drew)); exact (Kd.R_mono (Kd.R_far (p := ⟨gb126, 1, none⟩) (Kd.R_far (p := ⟨gb126, 0, none⟩) (Kd.R_mono HO_8.out (fun k_ hk => (⟨hk, hk.2⟩ : _ ∧ k_ ≠ gb126))) (fun _ hk => hk.2) (.int .u64 ((rd_T70 t122 x21_1).f0))) (fun _ hk => hk.2) (.int .u64 ((rd_T70 t122 x21_1).f1))) (fun _ h_ => h_.1))))) (Kd.R_lt (by (with_reducible repeat (first | apply Kd.R_alloc | apply Kd.R_drewN | apply Kd.R_drew)); exact (Kd.R_mono (Kd.R_far (p := ⟨gb126, 1, none⟩) (Kd.R_far (p := ⟨gb126, 0, none⟩) (Kd.R_mono HO_19.out (fun k_ hk => (⟨hk, hk.2⟩ : _ ∧ k_ ≠ gb126))) (fun _ hk => hk.2) (.int .u64 ((rd_T70 t122 x21_1).f0))) (fun _ hk => hk.2) (.int .u64 ((rd_T70 t122 x21_1).f1))) (fun _ h_ => h_.1))))) (g := gb126) (o := .cells #[.int .u64 ((rd_T70 t122 x21_1).f0), .int .u64 ((rd_T70 t122 x21_1).f1)] 70 (0, 0)) (by (with_reducible repeat (first | refine blk_drewN ?_ _ | refine blk_drew ?_ | refine blk_alloc ?_ _)); refine blk_put (cs := #[.int .u64 ((rd_T70 t122 x21_1).f0), .int .u64 0]) ?_ 1 _ rfl; (with_reducible repeat (first | refine blk_drewN ?_ _ | refine blk_drew ?_ | refine blk_alloc ?_ _)); refine blk_put (cs := #[.int .u64 0, .int .u64 0]) ?_ 0 _ rfl; (with_reducible repeat (first | refine blk_drewN ?_ _ | refine blk_drew ?_ | refine blk_alloc ?_ _)); exact BK126.out)) (below_size (by repeat (first | (with_reducible first | exact HB.out | apply below_alloc | apply pw_below_drewN | apply below_drew1 | refine below_set ?_ GE126.out) | exact HB.out)))); have n4_ := Aside0.mk (blk_below (g := gb126) (o := .cells #[.int .u64 ((rd_T70 t122 x21_1).f0), .int .u64 ((rd_T70 t122 x21_1).f1)] 70 (0, 0)) (by (with_reducible repeat (first | refine blk_drewN ?_ _ | refine blk_drew ?_ | refine blk_alloc ?_ _)); refine blk_put (cs := #[.int .u64 ((rd_T70 t122 x21_1).f0), .int .u64 0]) ?_ 1 _ rfl; (with_reducible repeat (first | refine blk_drewN ?_ _ | refine blk_drew ?_ | refine blk_alloc ?_ _)); refine blk_put (cs := #[.int .u64 0, .int .u64 0]) ?_ 0 _ rfl; (with_reducible repeat (first | refine blk_drewN ?_ _ | refine blk_drew ?_ | refine blk_alloc ?_ _)); exact BK126.out) hb); have n5_ := Aside0.mk (below_step (by repeat (first | (with_reducible first | exact HB.out | apply below_alloc | apply pw_below_drewN | apply below_drew1 | refine below_set ?_ GE126.out) | exact HB.out)) hb); clear HO_7; clear HO_8; clear HO_19; clear BK126; clear HB; have HO_7 := n0_; have HO_8 := n1_; have HO_19 := n2_; have HO129 := n3_; have BK126 := n4_; have HB := n5_; clear n0_ n1_ n2_ n3_ n4_ n5_; clear hb ho16; obtain ⟨Ao18, co18, eo18⟩ := Kd.R_slice HO129.out; subst eo18) | ((with_reducible refine gate_builtin (b := .append) (xs := #[.tmp 25, .tmp 27]) rfl ?_); at_builtin; refine Kd.R_append_rows k70 (w0 := w) w.heap.size rfl (.tmp 25) (.tmp 27) 29 70 (.agg #[(.int .u64 0), (.int .u64 0)]) 16 rfl Tryd.underlying29 info70 rfl (by decide) (by omega) u8 x8_1 y127 _ _ _ (fun k_ => some k_ ≠ (.slice (some ad125) t122.length co8 : Value).ownBlock ∧ some k_ ≠ (.slice Ao18 y127.length co18 : Value).ownBlock ∧ k_ ≠ gb126) (fun _ => False) rfl rfl ?aO ?aR (fun _ _ h => h) (fun _ h => h.elim) ?aF ?aB ?aS ?aL ?_; (case aR => repeat (first | exact (Kd.R_reads' HO129.out).2.2 | (with_reducible refine Kd.C_alloc ?_ _) | (with_reducible refine Kd.C_drewN ?_ _) | (with_reducible refine Kd.C_drew ?_))); (case aB => exact (by repeat (first | (with_reducible first | exact HB.out | apply below_alloc | apply pw_below_drewN | apply below_drew1 | refine below_set ?_ GE126.out) | exact HB.out))); (case aF => exact (fun k_ hk => ⟨Kd.fresh' (Kd.R_lt (by (with_reducible repeat (first | apply Kd.R_alloc | apply Kd.R_drewN | apply Kd.R_drew)); exact HO_19.out)) k_ hk, Kd.fresh' (Kd.R_lt (by (with_reducible repeat (first | apply Kd.R_alloc | apply Kd.R_drewN | apply Kd.R_drew)); exact HO129.out)) k_ hk, Kd.freshB (g := gb126) (o := .cells #[.int .u64 ((rd_T70 t122 x21_1).f0), .int .u64 ((rd_T70 t122 x21_1).f1)] 70 (0, 0)) (by (with_reducible repeat (first | refine blk_drewN ?_ _ | refine blk_drew ?_ | refine blk_alloc ?_ _)); exact BK126.out) k_ hk⟩)); (case aO => exact (by (with_reducible repeat (first | apply Kd.R_alloc | apply Kd.R_drewN | apply Kd.R_drew)); exact Kd.R_mono HO_8.out (fun _ hk => ⟨hk.1.1, ⟨hk.2, hk.1.2⟩⟩))); (case aS => exact (below_size (by repeat (first | (with_reducible first | exact HB.out | apply below_alloc | apply pw_below_drewN | apply below_drew1 | refine below_set ?_ GE126.out) | exact HB.out)))); (case aL => have := LMc12.out; omega); intro v131 w17 ho hb hg hat; rw [← Ny130.out] at ho; have n0_ := Aside0.mk (Kd.R_over' (by (with_reducible repeat (first | apply Kd.R_alloc | apply Kd.R_drewN | apply Kd.R_drew)); exact HO_7.out) (Kd.R_typed (by (with_reducible repeat (first | apply Kd.R_alloc | apply Kd.R_drewN | apply Kd.R_drew)); exact HO_8.out)) (by decide) hg); have n1_ := Aside0.mk (Kd.R_after (ok := (fun k_ => some k_ ≠ (.slice Ao18 y127.length co18 : Value).ownBlock ∧ k_ ≠ gb126)) (by (with_reducible repeat (first | apply Kd.R_alloc | apply Kd.R_drewN | apply Kd.R_drew)); exact Kd.R_mono HO_19.out (fun _ hk => ⟨⟨hk.2, hk.1.2⟩, hk.1.1⟩)) hg hat); have n2_ := Aside0.mk (blk_grown (g := gb126) (o := .cells #[.int .u64 ((rd_T70 t122 x21_1).f0), .int .u64 ((rd_T70 t122 x21_1).f1)] 70 (0, 0)) (by (with_reducible repeat (first | refine blk_drewN ?_ _ | refine blk_drew ?_ | refine blk_alloc ?_ _)); exact BK126.out) hg (Kd.R_away HO_8.out (fun _ hk => hk.1.2))); have n3_ := Aside0.mk (Kd.R_after (ok := (fun k_ => some k_ ≠ (.slice (some ad125) t122.length co8 : Value).ownBlock ∧ k_ ≠ gb126)) (by (with_reducible repeat (first | apply Kd.R_alloc | apply Kd.R_drewN | apply Kd.R_drew)); exact Kd.R_mono HO129.out (fun _ hk => ⟨⟨hk.1.2, hk.2⟩, hk.1.1.2⟩)) hg hat); have n4_ := Aside0.mk (hb); have n5_ := Aside0.mk (ho); clear HO_7; clear HO_19; clear BK126; clear HO129; clear HB; clear HO_8; have HO_7 := n0_; have HO_19 := n1_; have BK126 := n2_; have HO129 := n3_; have HB := n4_; have HO132 := n5_; clear n0_ n1_ n2_ n3_ n4_ n5_; clear ho hb hg hat; obtain ⟨Ao19, co19, eo19⟩ := Kd.R_slice HO132.out; subst eo19))
              try simp only [Act.put, List.setIfInBounds_toArray, List.set_cons_zero, List.set_cons_succ]
              go_loopg [7, 8, 11] k1 (fun kq v7 v8 v11 w' => ∃ (x7_2 : List Int) (x8_2 : List (S70)) (x11_2 : Int) (x127000_2 : Int) (x127001_2 : Int), v11 = .int .i64 x11_2 ∧ Aside0 (spec_MergedLevels.l1 kq x7_2 x8_2 x11_2 t122 (t122.length : Int) x21_1 x127000_2 x127001_2 = some r) ∧ Aside0 (kq ≤ k1) ∧ Aside0 (Kd.R (Kd.int .u64) 23 w' w.heap.size (fun _ => True) v7 x7_2) ∧ Aside0 (Kd.R k70 70 w' w.heap.size (fun k_ => some k_ ≠ ((.slice (some ad125) t122.length co8) : Value).ownBlock ∧ k_ ≠ gb126) v8 x8_2) ∧ Aside0 (Kd.R k70 70 w' w.heap.size (fun k_ => some k_ ≠ (v8 : Value).ownBlock ∧ k_ ≠ gb126) (.slice (some ad125) t122.length co8) t122) ∧ Aside0 (w'.heap[gb126]? = some (.cells #[.int .u64 x127000_2, .int .u64 x127001_2] 70 (0, 0))) ∧ Aside0 (Below w.heap.size w w'))
              case atStart => exact ⟨(x7_1), (y130), ((y130.length : Int)), ((rd_T70 t122 x21_1).f0), ((rd_T70 t122 x21_1).f1), (by first | rfl | (simp; done) | (simp [*]; done)), H', ⟨Nat.le_refl _⟩, ⟨by (with_reducible repeat (first | apply Kd.R_alloc | apply Kd.R_drewN | apply Kd.R_drew)); exact HO_7.out⟩, ⟨by (with_reducible repeat (first | apply Kd.R_alloc | apply Kd.R_drewN | apply Kd.R_drew)); exact Kd.R_mono HO132.out (fun _ hk => ⟨hk.1, hk.2.2⟩)⟩, ⟨by (with_reducible repeat (first | apply Kd.R_alloc | apply Kd.R_drewN | apply Kd.R_drew)); exact Kd.R_mono HO_19.out (fun _ hk => ⟨hk.2, hk.1.2⟩)⟩, ⟨by (with_reducible repeat (first | refine blk_drewN ?_ _ | refine blk_drew ?_ | refine blk_alloc ?_ _)); exact BK126.out⟩, ⟨by repeat (first | (with_reducible first | exact HB.out | apply below_alloc | apply pw_below_drewN | apply below_drew1 | refine below_set ?_ GE126.out) | exact HB.out)⟩⟩
              case round =>
                clear H'
                try clear c1
                try clear p1
                try clear q1
                try clear hx1
                try clear c2
                try clear p2
                try clear c9
                try clear c9b0
                try clear c10
                try clear c10b0
                try clear c11
                try clear c11b0
                try clear c12
                try clear p12
                try clear q12
                try clear hx12
                try clear c16
                try clear hcz14_0
                try clear hcz14_1
                try clear hfz14_0
                try clear hfz14_1
                try clear hx125_0
                try clear hx125_1
                try clear p125
                try clear p2
                try clear q125
                obtain ⟨x7_2, x8_2, x11_2, x127000_2, x127001_2, rfl, HA, HK2, HO_7, HO_8, HO_19, BK126, HB⟩ := hrel
                cases gk with
                | zero => exact absurd HA.out (by simp [spec_MergedLevels.l1])
                | succ k2 =>
                  have H := HA.out
                  clear HA
                  simp only [spec_MergedLevels.l1] at H
                  by_cases c20 : x11_2 > 1
                  · rw [if_pos c20] at H
                    have c20b0 : decide (1 < x11_2) = true := decide_eq_true c20
                    clear c20
                    obtain ⟨ji21, hji21⟩ : ∃ j_ : Int, (wrap64 (x11_2 - 2)) = j_ := ⟨_, rfl⟩
                    replace H : (if 0 ≤ (ji21) then (if (ji21) < (x8_2.length : Int) then (if ((rd_T70 x8_2 (ji21)).f0) = x127000_2 then (if (Int.tmod ((rd_T70 x8_2 (ji21)).f1) 2) = 0 then (if (ji21) ≤ (x8_2.length : Int) then ((some (x8_2.take ((ji21) : Int).toNat : List (S70))).bind fun y135 => ((some (([(⟨IntKind.u64.wrap (x127000_2 + 1), IntKind.u64.wrap (Int.tdiv x127001_2 2)⟩ : S70)] : List (S70)) : List (S70))).bind fun y138 => (if y135.length + y138.length < 8796093022208 then ((some (y135 ++ y138 : List (S70))).bind fun y141 => ((some (([IntKind.u64.wrap (x127000_2 + 1)] : List Int) : List Int)).bind fun y144 => (if x7_2.length + y144.length < 17592186044416 then (spec_MergedLevels.l1 k2 (x7_2 ++ y144) y141 (y141.length : Int) t122 (t122.length : Int) x21_1 (IntKind.u64.wrap (x127000_2 + 1)) (IntKind.u64.wrap (Int.tdiv x127001_2 2))) else (none)))) else (none)))) else (none)) else (spec_MergedLevels.l0 k2 x7_2 x8_2 t122 (t122.length : Int) (wrap64 (x21_1 + 1)))) else (spec_MergedLevels.l0 k2 x7_2 x8_2 t122 (t122.length : Int) (wrap64 (x21_1 + 1)))) else (none)) else (none)) = some r := by first | (rw [hji21] at H; exact H) | (simp only [hji21] at H ⊢; exact H)
                    have hji21w : (IntKind.i64.wrap (x11_2 - 2)) = ji21 := (i64_w _).trans hji21
                    by_cases c22 : 0 ≤ (ji21)
                    · rw [if_pos c22] at H
                      have c22b0 : decide (0 ≤ (ji21)) = true := decide_eq_true c22
                      clear c22
                      by_cases c23 : (ji21) < (x8_2.length : Int)
                      · rw [if_pos c23] at H
                        have c23b0 : decide ((ji21) < (x8_2.length : Int)) = true := decide_eq_true c23
                        clear c23
                        by_cases c24 : ((rd_T70 x8_2 (ji21)).f0) = x127000_2
                        · rw [if_pos c24] at H
                          have c24b0 : (((rd_T70 x8_2 (ji21)).f0) == x127000_2) = true := beq_iff_eq.mpr c24
                          have c24b1 : (((rd_T70 x8_2 (ji21)).f0) != x127000_2) = false := bne_eq_false_iff_eq.mpr c24
                          clear c24
                          by_cases c25 : (Int.tmod ((rd_T70 x8_2 (ji21)).f1) 2) = 0
                          · rw [if_pos c25] at H
                            have c25b0 : ((Int.tmod ((rd_T70 x8_2 (ji21)).f1) 2) == 0) = true := beq_iff_eq.mpr c25
                            have c25b1 : ((Int.tmod ((rd_T70 x8_2 (ji21)).f1) 2) != 0) = false := bne_eq_false_iff_eq.mpr c25
                            clear c25
                            by_cases c26 : (ji21) ≤ (x8_2.length : Int)
                            · rw [if_pos c26] at H
                              have c26b0 := eq_true c26
                              have c26b1 : decide ((ji21) ≤ (x8_2.length : Int)) = true := decide_eq_true c26
                              clear c26
                              obtain ⟨y135, hy135⟩ : ∃ y_ : List (S70), y_ = (x8_2.take ((ji21) : Int).toNat) := ⟨_, rfl⟩
                              replace H : ((some (([(⟨IntKind.u64.wrap (x127000_2 + 1), IntKind.u64.wrap (Int.tdiv x127001_2 2)⟩ : S70)] : List (S70)) : List (S70))).bind fun y138 => (if y135.length + y138.length < 8796093022208 then ((some (y135 ++ y138 : List (S70))).bind fun y141 => ((some (([IntKind.u64.wrap (x127000_2 + 1)] : List Int) : List Int)).bind fun y144 => (if x7_2.length + y144.length < 17592186044416 then (spec_MergedLevels.l1 k2 (x7_2 ++ y144) y141 (y141.length : Int) t122 (t122.length : Int) x21_1 (IntKind.u64.wrap (x127000_2 + 1)) (IntKind.u64.wrap (Int.tdiv x127001_2 2))) else (none)))) else (none))) = some r := by first | (rw [hy135]; with_reducible exact H) | (have H2_ := (Option.bind_some _ _).symm.trans H; rw [hy135]; with_reducible exact H2_) | (have H2_ := (Option.bind_some _ _).symm.trans H; with_reducible exact H2_) | with_reducible exact H | (rw [hy135]; exact H) | exact H
                              have Ny135 := Aside0.mk hy135
                              clear hy135
                              obtain ⟨y138, hy138⟩ : ∃ y_ : List (S70), y_ = (([(⟨IntKind.u64.wrap (x127000_2 + 1), IntKind.u64.wrap (Int.tdiv x127001_2 2)⟩ : S70)] : List (S70))) := ⟨_, rfl⟩
                              replace H : (if y135.length + y138.length < 8796093022208 then ((some (y135 ++ y138 : List (S70))).bind fun y141 => ((some (([IntKind.u64.wrap (x127000_2 + 1)] : List Int) : List Int)).bind fun y144 => (if x7_2.length + y144.length < 17592186044416 then (spec_MergedLevels.l1 k2 (x7_2 ++ y144) y141 (y141.length : Int) t122 (t122.length : Int) x21_1 (IntKind.u64.wrap (x127000_2 + 1)) (IntKind.u64.wrap (Int.tdiv x127001_2 2))) else (none)))) else (none)) = some r := by first | (rw [hy138]; with_reducible exact H) | (have H2_ := (Option.bind_some _ _).symm.trans H; rw [hy138]; with_reducible exact H2_) | (have H2_ := (Option.bind_some _ _).symm.trans H; with_reducible exact H2_) | with_reducible exact H | (rw [hy138]; exact H) | exact H
                              have Ny138 := Aside0.mk hy138
                              clear hy138
                              by_cases c27 : y135.length + y138.length < 8796093022208
                              · rw [if_pos c27] at H
                                have LMc27 := Aside0.mk c27
                                clear c27
                                obtain ⟨y141, hy141⟩ : ∃ y_ : List (S70), y_ = (y135 ++ y138) := ⟨_, rfl⟩
                                replace H : ((some (([IntKind.u64.wrap (x127000_2 + 1)] : List Int) : List Int)).bind fun y144 => (if x7_2.length + y144.length < 17592186044416 then (spec_MergedLevels.l1 k2 (x7_2 ++ y144) y141 (y141.length : Int) t122 (t122.length : Int) x21_1 (IntKind.u64.wrap (x127000_2 + 1)) (IntKind.u64.wrap (Int.tdiv x127001_2 2))) else (none))) = some r := by first | (rw [hy141]; with_reducible exact H) | (have H2_ := (Option.bind_some _ _).symm.trans H; rw [hy141]; with_reducible exact H2_) | (have H2_ := (Option.bind_some _ _).symm.trans H; with_reducible exact H2_) | with_reducible exact H | (rw [hy141]; exact H) | exact H
                                have Ny141 := Aside0.mk hy141
                                clear hy141
                                obtain ⟨y144, hy144⟩ : ∃ y_ : List Int, y_ = (([IntKind.u64.wrap (x127000_2 + 1)] : List Int)) := ⟨_, rfl⟩
                                replace H : (if x7_2.length + y144.length < 17592186044416 then (spec_MergedLevels.l1 k2 (x7_2 ++ y144) y141 (y141.length : Int) t122 (t122.length : Int) x21_1 (IntKind.u64.wrap (x127000_2 + 1)) (IntKind.u64.wrap (Int.tdiv x127001_2 2))) else (none)) = some r := by first | (rw [hy144]; with_reducible exact H) | (have H2_ := (Option.bind_some _ _).symm.trans H; rw [hy144]; with_reducible exact H2_) | (have H2_ := (Option.bind_some _ _).symm.trans H; with_reducible exact H2_) | with_reducible exact H | (rw [hy144]; exact H) | exact H
                                have Ny144 := Aside0.mk hy144
                                clear hy144
                                by_cases c28 : x7_2.length + y144.length < 17592186044416
                                · rw [if_pos c28] at H
                                  have LMc28 := Aside0.mk c28
                                  clear c28
                                  obtain ⟨y147, hy147⟩ : ∃ y_ : List Int, y_ = (x7_2 ++ y144) := ⟨_, rfl⟩
                                  replace H : (spec_MergedLevels.l1 k2 y147 y141 (y141.length : Int) t122 (t122.length : Int) x21_1 (IntKind.u64.wrap (x127000_2 + 1)) (IntKind.u64.wrap (Int.tdiv x127001_2 2))) = some r := by first | (rw [hy147]; with_reducible exact H) | (have H2_ := (Option.bind_some _ _).symm.trans H; rw [hy147]; with_reducible exact H2_) | (have H2_ := (Option.bind_some _ _).symm.trans H; with_reducible exact H2_) | with_reducible exact H | (rw [hy147]; exact H) | exact H
                                  have Ny147 := Aside0.mk hy147
                                  clear hy147
                                  have H' := Aside0.mk H
                                  clear H
                                  try go_wp2
                                  have n0_ := Aside0.mk (Kd.R_drew HO_7.out)
                                  have n1_ := Aside0.mk (Kd.R_drew HO_8.out)
                                  have n2_ := Aside0.mk (Kd.R_drew HO_19.out)
                                  have n3_ := Aside0.mk (blk_drew BK126.out)
                                  have n4_ := Aside0.mk (below_drew1 HB.out)
                                  clear HO_7
                                  clear HO_8
                                  clear HO_19
                                  clear BK126
                                  clear HB
                                  have HO_7 := n0_
                                  have HO_8 := n1_
                                  have HO_19 := n2_
                                  have BK126 := n3_
                                  have HB := n4_
                                  clear n0_ n1_ n2_ n3_ n4_
                                  obtain ⟨Ao30, co30, eo30⟩ := Kd.R_slice HO_8.out
                                  (first | subst eo30 | (injection eo30 with f1_ f2_ f3_; have f4_ := f1_.symm; have f5_ := f3_.symm; clear f1_ f2_ f3_; subst f4_; subst f5_))
                                  have p133 : 0 ≤ ((ji21) : Int) := of_decide_eq_true (by first | (with_reducible assumption) | assumption)
                                  have q133 : (ji21) < (x8_2.length : Int) := of_decide_eq_true (by first | (with_reducible assumption) | assumption)
                                  obtain ⟨ad133, e133, hx133_0, hx133_1⟩ := at_T70 (Kd.R_reads' HO_8.out).2.2 (ji21) p133 q133
                                  cases e133
                                  replace p133 := eq_true p133
                                  replace q133 := eq_true q133
                                  have p134 : 0 ≤ ((ji21) : Int) := of_decide_eq_true (by first | (with_reducible assumption) | assumption)
                                  have q134 : (ji21) < (x8_2.length : Int) := of_decide_eq_true (by first | (with_reducible assumption) | assumption)
                                  obtain ⟨ad134, e134, hx134_0, hx134_1⟩ := at_T70 (Kd.R_reads' HO_8.out).2.2 (ji21) p134 q134
                                  obtain rfl : ad133 = ad134 := (by injection e134)
                                  replace p134 := eq_true p134
                                  replace q134 := eq_true q134
                                  refine start_ (n := 23) (S := fun w' => w'.cell? ⟨gb126, 0, none⟩ = some (.int .u64 x127000_2) ∧ w'.cell? ⟨gb126, 1, none⟩ = some (.int .u64 x127001_2) ∧ w'.cell? (ad133.add (((ji21)).toNat * 2)) = some (.int .u64 ((rd_T70 x8_2 (ji21)).f0)) ∧ w'.cell? ⟨(ad133.add (((ji21)).toNat * 2)).block, (ad133.add (((ji21)).toNat * 2)).off + 1, none⟩ = some (.int .u64 ((rd_T70 x8_2 (ji21)).f1)) ∧ w'.cell? (ad133.add (((ji21)).toNat * 2)) = some (.int .u64 ((rd_T70 x8_2 (ji21)).f0)) ∧ w'.cell? ⟨(ad133.add (((ji21)).toNat * 2)).block, (ad133.add (((ji21)).toNat * 2)).off + 1, none⟩ = some (.int .u64 ((rd_T70 x8_2 (ji21)).f1))) (ds := []) #[false, false, false, false, false, false, false, false, false, false, false, false, false, false, false, false, false, false, false, false, false, false, false] (by kernel_rfl) rfl rfl ⟨(blk_cell BK126.out 0).trans rfl, (blk_cell BK126.out 1).trans rfl, hx133_0, hx133_1, hx134_0, hx134_1⟩ (fun hHeld => ?_); refine with_tabW spec_MergedLevels.tab8 spec_MergedLevels.bits8 (fun HT_ HW_ => ?_)
                                  (first | (have t_ := HO_7; clear t_) | have HO_7 : True := trivial)
                                  (first | (have t_ := HO_8; clear t_) | have HO_8 : True := trivial)
                                  (first | (have t_ := HO_19; clear t_) | have HO_19 : True := trivial)
                                  generalize wr.drew = w29 at HO_7 HO_8 HO_19 BK126 HB hx133_0 hx133_1 hx134_0 hx134_1 hHeld ⊢
                                  refine pure_ (i := 0) (N := some 31) (v := ?_) (a' := ?_) #[true, false, false, false, false, false, false, false, false, false, false, false, false, false, false, false, false, false, false, false, false, false, false] rfl rfl (any_of HT_.out (by kernel_rfl)) (fun _ _ _ h => h) (Or.inl ⟨by rfl, ?_⟩) ?_ ?_
                                  rotate_left
                                  · intro w'
                                    go_simp
                                    with_reducible rfl
                                  rotate_left
                                  · simp only [Act.put, List.setIfInBounds_toArray, List.set_cons_zero, List.set_cons_succ, i64_w, i32_w]
                                    rfl
                                  refine pure_ (i := 1) (N := some 32) (v := ?_) (a' := ?_) #[true, true, false, false, false, false, false, false, false, false, false, false, false, false, false, false, false, false, false, false, false, false, false] rfl rfl (any_of HT_.out (by kernel_rfl)) (fun _ _ _ h => h) (Or.inl ⟨by rfl, ?_⟩) ?_ ?_
                                  rotate_left
                                  · intro w'
                                    go_simp
                                    with_reducible rfl
                                  rotate_left
                                  · simp only [Act.put, List.setIfInBounds_toArray, List.set_cons_zero, List.set_cons_succ, i64_w, i32_w]
                                    rfl
                                  refine pure_ (i := 2) (N := some 33) (v := ?_) (a' := ?_) #[true, true, true, false, false, false, false, false, false, false, false, false, false, false, false, false, false, false, false, false, false, false, false] rfl rfl (any_of HT_.out (by kernel_rfl)) (fun _ _ _ h => h) (Or.inl ⟨by rfl, ?_⟩) ?_ ?_
                                  rotate_left
                                  · intro w'
                                    go_simp
                                    with_reducible rfl
                                  rotate_left
                                  · simp only [Act.put, List.setIfInBounds_toArray, List.set_cons_zero, List.set_cons_succ, i64_w, i32_w]
                                    rfl
                                  refine pure_ (i := 3) (N := some 34) (v := ?_) (a' := ?_) #[true, true, true, true, false, false, false, false, false, false, false, false, false, false, false, false, false, false, false, false, false, false, false] rfl rfl (any_of HT_.out (by kernel_rfl)) (fun _ _ _ h => h) (Or.inl ⟨by rfl, ?_⟩) ?_ ?_
                                  rotate_left
                                  · intro w'
                                    go_simp
                                    with_reducible rfl
                                  rotate_left
                                  · simp only [Act.put, List.setIfInBounds_toArray, List.set_cons_zero, List.set_cons_succ, i64_w, i32_w]
                                    rfl
                                  refine pure_ (i := 4) (N := some 35) (v := ?_) (a' := ?_) #[true, true, true, true, true, false, false, false, false, false, false, false, false, false, false, false, false, false, false, false, false, false, false] rfl rfl (any_of HT_.out (by kernel_rfl)) (fun _ _ _ h => h) (Or.inl ⟨by rfl, ?_⟩) ?_ ?_
                                  rotate_left
                                  · intro w'
                                    go_simp
                                    with_reducible rfl
                                  rotate_left
                                  · simp only [Act.put, List.setIfInBounds_toArray, List.set_cons_zero, List.set_cons_succ, i64_w, i32_w]
                                    rfl
                                  refine pure_ (i := 5) (N := some 36) (v := ?_) (a' := ?_) #[true, true, true, true, true, true, false, false, false, false, false, false, false, false, false, false, false, false, false, false, false, false, false] rfl rfl (any_of HT_.out (by kernel_rfl)) (fun _ _ _ h => h) (Or.inl ⟨by rfl, ?_⟩) ?_ ?_
                                  rotate_left
                                  · intro w'
                                    go_simp
                                    with_reducible rfl
                                  rotate_left
                                  · simp only [Act.put, List.setIfInBounds_toArray, List.set_cons_zero, List.set_cons_succ, i64_w, i32_w]
                                    rfl
                                  refine pure_ (i := 6) (N := some 37) (v := ?_) (a' := ?_) #[true, true, true, true, true, true, true, false, false, false, false, false, false, false, false, false, false, false, false, false, false, false, false] rfl rfl (any_of HT_.out (by kernel_rfl)) (fun _ _ _ h => h) (Or.inl ⟨by rfl, ?_⟩) ?_ ?_
                                  rotate_left
                                  · intro w'
                                    go_simp
                                    with_reducible rfl
                                  rotate_left
                                  · simp only [Act.put, List.setIfInBounds_toArray, List.set_cons_zero, List.set_cons_succ, i64_w, i32_w]
                                    rfl
                                  refine pure_ (i := 7) (N := some 38) (v := ?_) (a' := ?_) #[true, true, true, true, true, true, true, true, false, false, false, false, false, false, false, false, false, false, false, false, false, false, false] rfl rfl (any_of HT_.out (by kernel_rfl)) (fun _ _ _ h => h) (Or.inl ⟨by rfl, ?_⟩) ?_ ?_
                                  rotate_left
                                  · intro w'
                                    go_simp
                                    with_reducible rfl
                                  rotate_left
                                  · simp only [Act.put, List.setIfInBounds_toArray, List.set_cons_zero, List.set_cons_succ, i64_w, i32_w]
                                    rfl
                                  refine pure_ (i := 9) (N := some 40) (v := ?_) (a' := ?_) #[true, true, true, true, true, true, true, true, false, true, false, false, false, false, false, false, false, false, false, false, false, false, false] rfl rfl (any_of HT_.out (by kernel_rfl)) (fun _ _ _ h => h) (Or.inl ⟨by rfl, ?_⟩) ?_ ?_
                                  rotate_left
                                  · intro w'
                                    go_simp
                                    with_reducible rfl
                                  rotate_left
                                  · simp only [Act.put, List.setIfInBounds_toArray, List.set_cons_zero, List.set_cons_succ, i64_w, i32_w]
                                    rfl
                                  refine take_ (i := 8) (N := some 39) (v := ?_) (a' := ?_) #[true, true, true, true, true, true, true, true, true, true, false, false, false, false, false, false, false, false, false, false, false, false, false] rfl rfl (take_ofW HT_.out HW_.out (by kernel_rfl)) (fun _ _ _ h => h) (Or.inl ⟨by rfl, ?_⟩) hHeld ?_ ?_
                                  rotate_left
                                  · rintro w' ⟨s0, s1, s2, s3, s4, s5⟩
                                    go_simp
                                    with_reducible rfl
                                  rotate_left
                                  · simp only [Act.put, List.setIfInBounds_toArray, List.set_cons_zero, List.set_cons_succ, i64_w, i32_w]
                                    rfl
                                  refine take_ (i := 10) (N := some 41) (v := ?_) (a' := ?_) #[true, true, true, true, true, true, true, true, true, true, true, false, false, false, false, false, false, false, false, false, false, false, false] rfl rfl (take_ofW HT_.out HW_.out (by kernel_rfl)) (fun _ _ _ h => h) (Or.inl ⟨by rfl, ?_⟩) hHeld ?_ ?_
                                  rotate_left
                                  · rintro w' ⟨s0, s1, s2, s3, s4, s5⟩
                                    go_simp
                                    with_reducible rfl
                                  rotate_left
                                  · simp only [Act.put, List.setIfInBounds_toArray, List.set_cons_zero, List.set_cons_succ, i64_w, i32_w]
                                    rfl
                                  refine pure_ (i := 11) (N := some 42) (v := ?_) (a' := ?_) #[true, true, true, true, true, true, true, true, true, true, true, true, false, false, false, false, false, false, false, false, false, false, false] rfl rfl (any_of HT_.out (by kernel_rfl)) (fun _ _ _ h => h) (Or.inl ⟨by rfl, ?_⟩) ?_ ?_
                                  rotate_left
                                  · intro w'
                                    go_simp
                                    with_reducible rfl
                                  rotate_left
                                  · simp only [Act.put, List.setIfInBounds_toArray, List.set_cons_zero, List.set_cons_succ, i64_w, i32_w]
                                    rfl
                                  refine pure_ (i := 12) (N := some 43) (v := ?_) (a' := ?_) #[true, true, true, true, true, true, true, true, true, true, true, true, true, false, false, false, false, false, false, false, false, false, false] rfl rfl (any_of HT_.out (by kernel_rfl)) (fun _ _ _ h => h) (Or.inl ⟨by rfl, ?_⟩) ?_ ?_
                                  rotate_left
                                  · intro w'
                                    go_simp
                                    with_reducible rfl
                                  rotate_left
                                  · simp only [Act.put, List.setIfInBounds_toArray, List.set_cons_zero, List.set_cons_succ, i64_w, i32_w]
                                    rfl
                                  refine pure_ (i := 13) (N := some 44) (v := ?_) (a' := ?_) #[true, true, true, true, true, true, true, true, true, true, true, true, true, true, false, false, false, false, false, false, false, false, false] rfl rfl (any_of HT_.out (by kernel_rfl)) (fun _ _ _ h => h) (Or.inl ⟨by rfl, ?_⟩) ?_ ?_
                                  rotate_left
                                  · intro w'
                                    go_simp
                                    with_reducible rfl
                                  rotate_left
                                  · simp only [Act.put, List.setIfInBounds_toArray, List.set_cons_zero, List.set_cons_succ, i64_w, i32_w]
                                    rfl
                                  refine pure_ (i := 14) (N := some 45) (v := ?_) (a' := ?_) #[true, true, true, true, true, true, true, true, true, true, true, true, true, true, true, false, false, false, false, false, false, false, false] rfl rfl (any_of HT_.out (by kernel_rfl)) (fun _ _ _ h => h) (Or.inl ⟨by rfl, ?_⟩) ?_ ?_
                                  rotate_left
                                  · intro w'
                                    go_simp
                                    with_reducible rfl
                                  rotate_left
                                  · simp only [Act.put, List.setIfInBounds_toArray, List.set_cons_zero, List.set_cons_succ, i64_w, i32_w]
                                    rfl
                                  refine pure_ (i := 15) (N := some 46) (v := ?_) (a' := ?_) #[true, true, true, true, true, true, true, true, true, true, true, true, true, true, true, true, false, false, false, false, false, false, false] rfl rfl (any_of HT_.out (by kernel_rfl)) (fun _ _ _ h => h) (Or.inl ⟨by rfl, ?_⟩) ?_ ?_
                                  rotate_left
                                  · intro w'
                                    go_simp
                                    with_reducible rfl
                                  rotate_left
                                  · simp only [Act.put, List.setIfInBounds_toArray, List.set_cons_zero, List.set_cons_succ, i64_w, i32_w]
                                    rfl
                                  refine pure_ (i := 16) (N := some 47) (v := ?_) (a' := ?_) #[true, true, true, true, true, true, true, true, true, true, true, true, true, true, true, true, true, false, false, false, false, false, false] rfl rfl (any_of HT_.out (by kernel_rfl)) (fun _ _ _ h => h) (Or.inl ⟨by rfl, ?_⟩) ?_ ?_
                                  rotate_left
                                  · intro w'
                                    go_simp
                                    with_reducible rfl
                                  rotate_left
                                  · simp only [Act.put, List.setIfInBounds_toArray, List.set_cons_zero, List.set_cons_succ, i64_w, i32_w]
                                    rfl
                                  refine pure_ (i := 17) (N := some 48) (v := ?_) (a' := ?_) #[true, true, true, true, true, true, true, true, true, true, true, true, true, true, true, true, true, true, false, false, false, false, false] rfl rfl (any_of HT_.out (by kernel_rfl)) (fun _ _ _ h => h) (Or.inl ⟨by rfl, ?_⟩) ?_ ?_
                                  rotate_left
                                  · intro w'
                                    go_simp
                                    with_reducible rfl
                                  rotate_left
                                  · simp only [Act.put, List.setIfInBounds_toArray, List.set_cons_zero, List.set_cons_succ, i64_w, i32_w]
                                    rfl
                                  refine pure_ (i := 18) (N := some 49) (v := ?_) (a' := ?_) #[true, true, true, true, true, true, true, true, true, true, true, true, true, true, true, true, true, true, true, false, false, false, false] rfl rfl (any_of HT_.out (by kernel_rfl)) (fun _ _ _ h => h) (Or.inl ⟨by rfl, ?_⟩) ?_ ?_
                                  rotate_left
                                  · intro w'
                                    go_simp
                                    with_reducible rfl
                                  rotate_left
                                  · simp only [Act.put, List.setIfInBounds_toArray, List.set_cons_zero, List.set_cons_succ, i64_w, i32_w]
                                    rfl
                                  refine take_ (i := 19) (N := some 50) (v := ?_) (a' := ?_) #[true, true, true, true, true, true, true, true, true, true, true, true, true, true, true, true, true, true, true, true, false, false, false] rfl rfl (take_ofW HT_.out HW_.out (by kernel_rfl)) (fun _ _ _ h => h) (Or.inl ⟨by rfl, ?_⟩) hHeld ?_ ?_
                                  rotate_left
                                  · rintro w' ⟨s0, s1, s2, s3, s4, s5⟩
                                    go_simp
                                    with_reducible rfl
                                  rotate_left
                                  · simp only [Act.put, List.setIfInBounds_toArray, List.set_cons_zero, List.set_cons_succ, i64_w, i32_w]
                                    rfl
                                  refine pure_ (i := 20) (N := some 51) (v := ?_) (a' := ?_) #[true, true, true, true, true, true, true, true, true, true, true, true, true, true, true, true, true, true, true, true, true, false, false] rfl rfl (any_of HT_.out (by kernel_rfl)) (fun _ _ _ h => h) (Or.inl ⟨by rfl, ?_⟩) ?_ ?_
                                  rotate_left
                                  · intro w'
                                    go_simp
                                    with_reducible rfl
                                  rotate_left
                                  · simp only [Act.put, List.setIfInBounds_toArray, List.set_cons_zero, List.set_cons_succ, i64_w, i32_w]
                                    rfl
                                  refine pure_ (i := 21) (N := some 52) (v := ?_) (a' := ?_) #[true, true, true, true, true, true, true, true, true, true, true, true, true, true, true, true, true, true, true, true, true, true, false] rfl rfl (any_of HT_.out (by kernel_rfl)) (fun _ _ _ h => h) (Or.inl ⟨by rfl, ?_⟩) ?_ ?_
                                  rotate_left
                                  · intro w'
                                    go_simp
                                    with_reducible rfl
                                  rotate_left
                                  · simp only [Act.put, List.setIfInBounds_toArray, List.set_cons_zero, List.set_cons_succ, i64_w, i32_w]
                                    rfl
                                  refine pure_ (i := 22) (N := some 53) (v := ?_) (a' := ?_) #[true, true, true, true, true, true, true, true, true, true, true, true, true, true, true, true, true, true, true, true, true, true, true] rfl rfl (any_of HT_.out (by kernel_rfl)) (fun _ _ _ h => h) (Or.inl ⟨by rfl, ?_⟩) ?_ ?_
                                  rotate_left
                                  · intro w'
                                    go_simp
                                    with_reducible rfl
                                  rotate_left
                                  · simp only [Act.put, List.setIfInBounds_toArray, List.set_cons_zero, List.set_cons_succ, i64_w, i32_w]
                                    rfl
                                  refine done_ (done_of HT_.out (by kernel_rfl)) ?_
                                  have hcz31_0 : w29.cell? ⟨gb126, 0, none⟩ = some (.int .u64 x127000_2) := (blk_cell BK126.out 0).trans rfl
                                  have hcz31_1 : w29.cell? ⟨gb126, 1, none⟩ = some (.int .u64 x127001_2) := (blk_cell BK126.out 1).trans rfl
                                  have hfz31_0 := blk_frozen BK126.out 0
                                  have hfz31_1 := blk_frozen BK126.out 1
                                  obtain ⟨Ao32, co32, eo32⟩ := Kd.R_slice HO_7.out
                                  subst eo32
                                  try go_wp2
                                  have n0_ : Aside0 (Kd.R (Kd.int .u64) 23 ((w29.setCell ⟨gb126, 0, none⟩ (.int .u64 (IntKind.u64.wrap (x127000_2 + 1)))).setCell ⟨gb126, 1, none⟩ (.int .u64 (IntKind.u64.wrap (Int.tdiv x127001_2 2)))) w.heap.size (fun _ => True) (.slice Ao32 x7_2.length co32) x7_2) := ⟨by (with_reducible repeat (first | apply Kd.R_alloc | apply Kd.R_drewN | apply Kd.R_drew)); exact Kd.R_mono (Kd.R_far (p := ⟨gb126, 1, none⟩) (Kd.R_far (p := ⟨gb126, 0, none⟩) (Kd.R_types HO_7.out BK126.out (by decide)) (fun _ hk => hk.2) (.int .u64 (IntKind.u64.wrap (x127000_2 + 1)))) (fun _ hk => hk.2) (.int .u64 (IntKind.u64.wrap (Int.tdiv x127001_2 2)))) (fun _ hk => trivial)⟩
                                  have n1_ : Aside0 (Kd.R k70 70 ((w29.setCell ⟨gb126, 0, none⟩ (.int .u64 (IntKind.u64.wrap (x127000_2 + 1)))).setCell ⟨gb126, 1, none⟩ (.int .u64 (IntKind.u64.wrap (Int.tdiv x127001_2 2)))) w.heap.size (fun k_ => some k_ ≠ (.slice (some ad125) t122.length co8 : Value).ownBlock ∧ k_ ≠ gb126) (.slice (some ad133) x8_2.length co30) x8_2) := ⟨by (with_reducible repeat (first | apply Kd.R_alloc | apply Kd.R_drewN | apply Kd.R_drew)); exact Kd.R_mono (Kd.R_far (p := ⟨gb126, 1, none⟩) (Kd.R_far (p := ⟨gb126, 0, none⟩) (Kd.R_mono HO_8.out (fun k_ hk => (⟨hk, hk.2⟩ : _ ∧ k_ ≠ gb126))) (fun _ hk => hk.2) (.int .u64 (IntKind.u64.wrap (x127000_2 + 1)))) (fun _ hk => hk.2) (.int .u64 (IntKind.u64.wrap (Int.tdiv x127001_2 2)))) (fun _ hk => ⟨hk.1.1, hk.1.2⟩)⟩
                                  have n2_ : Aside0 (Kd.R k70 70 ((w29.setCell ⟨gb126, 0, none⟩ (.int .u64 (IntKind.u64.wrap (x127000_2 + 1)))).setCell ⟨gb126, 1, none⟩ (.int .u64 (IntKind.u64.wrap (Int.tdiv x127001_2 2)))) w.heap.size (fun k_ => some k_ ≠ (.slice (some ad133) x8_2.length co30 : Value).ownBlock ∧ k_ ≠ gb126) (.slice (some ad125) t122.length co8) t122) := ⟨by (with_reducible repeat (first | apply Kd.R_alloc | apply Kd.R_drewN | apply Kd.R_drew)); exact Kd.R_mono (Kd.R_far (p := ⟨gb126, 1, none⟩) (Kd.R_far (p := ⟨gb126, 0, none⟩) (Kd.R_mono HO_19.out (fun k_ hk => (⟨hk, hk.2⟩ : _ ∧ k_ ≠ gb126))) (fun _ hk => hk.2) (.int .u64 (IntKind.u64.wrap (x127000_2 + 1)))) (fun _ hk => hk.2) (.int .u64 (IntKind.u64.wrap (Int.tdiv x127001_2 2)))) (fun _ hk => ⟨hk.1.1, hk.1.2⟩)⟩
                                  have n3_ : Aside0 (((w29.setCell ⟨gb126, 0, none⟩ (.int .u64 (IntKind.u64.wrap (x127000_2 + 1)))).setCell ⟨gb126, 1, none⟩ (.int .u64 (IntKind.u64.wrap (Int.tdiv x127001_2 2)))).heap[gb126]? = some (.cells #[.int .u64 (IntKind.u64.wrap (x127000_2 + 1)), .int .u64 (IntKind.u64.wrap (Int.tdiv x127001_2 2))] 70 (0, 0))) := ⟨by (with_reducible repeat (first | refine blk_drewN ?_ _ | refine blk_drew ?_ | refine blk_alloc ?_ _)); refine blk_put (cs := #[.int .u64 (IntKind.u64.wrap (x127000_2 + 1)), .int .u64 x127001_2]) ?_ 1 _ rfl; (with_reducible repeat (first | refine blk_drewN ?_ _ | refine blk_drew ?_ | refine blk_alloc ?_ _)); refine blk_put (cs := #[.int .u64 x127000_2, .int .u64 x127001_2]) ?_ 0 _ rfl; (with_reducible repeat (first | refine blk_drewN ?_ _ | refine blk_drew ?_ | refine blk_alloc ?_ _)); exact BK126.out⟩
                                  have n4_ : Aside0 (Below w.heap.size w ((w29.setCell ⟨gb126, 0, none⟩ (.int .u64 (IntKind.u64.wrap (x127000_2 + 1)))).setCell ⟨gb126, 1, none⟩ (.int .u64 (IntKind.u64.wrap (Int.tdiv x127001_2 2))))) := ⟨by repeat (first | (with_reducible first | exact HB.out | apply below_alloc | apply pw_below_drewN | apply below_drew1 | refine below_set ?_ GE126.out) | exact HB.out)⟩
                                  (try clear HO_7)
                                  (try clear HO_8)
                                  (try clear HO_19)
                                  (try clear BK126)
                                  (try clear HB)
                                  generalize ((w29.setCell ⟨gb126, 0, none⟩ (.int .u64 (IntKind.u64.wrap (x127000_2 + 1)))).setCell ⟨gb126, 1, none⟩ (.int .u64 (IntKind.u64.wrap (Int.tdiv x127001_2 2)))) = w33 at n0_ n1_ n2_ n3_ n4_ ⊢
                                  have HO_7 := n0_
                                  have HO_8 := n1_
                                  have HO_19 := n2_
                                  have BK126 := n3_
                                  have HB := n4_
                                  clear n0_ n1_ n2_ n3_ n4_
                                  have n0_ := Aside0.mk (Kd.R_drew HO_7.out)
                                  have n1_ := Aside0.mk (Kd.R_drew HO_8.out)
                                  have n2_ := Aside0.mk (Kd.R_drew HO_19.out)
                                  have n3_ := Aside0.mk (blk_drew BK126.out)
                                  have n4_ := Aside0.mk (below_drew1 HB.out)
                                  clear HO_7
                                  clear HO_8
                                  clear HO_19
                                  clear BK126
                                  clear HB
                                  have HO_7 := n0_
                                  have HO_8 := n1_
                                  have HO_19 := n2_
                                  have BK126 := n3_
                                  have HB := n4_
                                  clear n0_ n1_ n2_ n3_ n4_
                                  have q35 : ((ji21) : Int) ≤ ((x8_2.length : Int) : Int) := of_decide_eq_true (by first | (with_reducible assumption) | assumption)
                                  obtain ⟨i035, hi035, _, hsz35, _⟩ := info_parts info70
                                  have hcut35 := cut_to (P := Tryd.prog) 29 70 .i64 Tryd.underlying29 hi035 (some ad133) x8_2.length co30 (ji21) (of_decide_eq_true (by first | (with_reducible assumption) | assumption)) q35 (Kd.R_reads' HO_8.out).2.1
                                  have hr35 := Kd.R_take (m := ((ji21) : Int).toNat) HO_8.out (by omega)
                                  have hy35 : y135.length = ((ji21) : Int).toNat := (by rw [Ny135.out, List.length_take]; omega)
                                  rw [← Ny135.out] at hr35
                                  rw [← hy35] at hr35 hcut35
                                  clear hy35 hi035 hsz35 HO_8
                                  have HO137 := Aside0.mk hr35
                                  clear hr35
                                  replace q35 := eq_true q35
                                  refine start_ (n := 14) (S := fun w' => w'.cell? ⟨gb126, 0, none⟩ = some (.int .u64 (IntKind.u64.wrap (x127000_2 + 1))) ∧ w'.cell? ⟨gb126, 1, none⟩ = some (.int .u64 (IntKind.u64.wrap (Int.tdiv x127001_2 2)))) (ds := []) #[false, false, false, false, false, false, false, false, false, false, false, false, false, false] (by kernel_rfl) rfl rfl ⟨(blk_cell BK126.out 0).trans rfl, (blk_cell BK126.out 1).trans rfl⟩ (fun hHeld => ?_); refine with_tabW spec_MergedLevels.tab11 spec_MergedLevels.bits11 (fun HT_ HW_ => ?_)
                                  (first | (have t_ := HO_7; clear t_) | have HO_7 : True := trivial)
                                  (first | (have t_ := HO_8; clear t_) | have HO_8 : True := trivial)
                                  (first | (have t_ := HO_19; clear t_) | have HO_19 : True := trivial)
                                  (first | (have t_ := HO137; clear t_) | have HO137 : True := trivial)
                                  generalize w33.drew = w34 at HO_7 HO_8 HO_19 BK126 HB HO137 hHeld ⊢
                                  refine pure_ (i := 0) (N := some 63) (v := ?_) (a' := ?_) #[true, false, false, false, false, false, false, false, false, false, false, false, false, false] rfl rfl (any_of HT_.out (by kernel_rfl)) (fun _ _ _ h => h) (Or.inl ⟨by rfl, ?_⟩) ?_ ?_
                                  rotate_left
                                  · intro w'
                                    go_simp
                                    with_reducible rfl
                                  rotate_left
                                  · simp only [Act.put, List.setIfInBounds_toArray, List.set_cons_zero, List.set_cons_succ, i64_w, i32_w]
                                    rfl
                                  refine pure_ (i := 1) (N := some 64) (v := ?_) (a' := ?_) #[true, true, false, false, false, false, false, false, false, false, false, false, false, false] rfl rfl (any_of HT_.out (by kernel_rfl)) (fun _ _ _ h => h) (Or.inl ⟨by rfl, ?_⟩) ?_ ?_
                                  rotate_left
                                  · intro w'
                                    go_simp
                                    with_reducible rfl
                                  rotate_left
                                  · simp only [Act.put, List.setIfInBounds_toArray, List.set_cons_zero, List.set_cons_succ, i64_w, i32_w]
                                    rfl
                                  refine pure_ (i := 2) (N := some 65) (v := ?_) (a' := ?_) #[true, true, true, false, false, false, false, false, false, false, false, false, false, false] rfl rfl (any_of HT_.out (by kernel_rfl)) (fun _ _ _ h => h) (Or.inl ⟨by rfl, ?_⟩) ?_ ?_
                                  rotate_left
                                  · intro w'
                                    go_simp
                                    with_reducible rfl
                                  rotate_left
                                  · simp only [Act.put, List.setIfInBounds_toArray, List.set_cons_zero, List.set_cons_succ, i64_w, i32_w]
                                    rfl
                                  refine pure_ (i := 3) (N := some 66) (v := ?_) (a' := ?_) #[true, true, true, true, false, false, false, false, false, false, false, false, false, false] rfl rfl (any_of HT_.out (by kernel_rfl)) (fun _ _ _ h => h) (Or.inl ⟨by rfl, ?_⟩) ?_ ?_
                                  rotate_left
                                  · intro w'
                                    go_simp
                                    with_reducible rfl
                                  rotate_left
                                  · simp only [Act.put, List.setIfInBounds_toArray, List.set_cons_zero, List.set_cons_succ, i64_w, i32_w]
                                    rfl
                                  refine pure_ (i := 7) (N := some 70) (v := ?_) (a' := ?_) #[true, true, true, true, false, false, false, true, false, false, false, false, false, false] rfl rfl (any_of HT_.out (by kernel_rfl)) (fun _ _ _ h => h) (Or.inl ⟨by rfl, ?_⟩) ?_ ?_
                                  rotate_left
                                  · intro w'
                                    go_simp
                                    with_reducible rfl
                                  rotate_left
                                  · simp only [Act.put, List.setIfInBounds_toArray, List.set_cons_zero, List.set_cons_succ, i64_w, i32_w]
                                    rfl
                                  refine pure_ (i := 8) (N := some 71) (v := ?_) (a' := ?_) #[true, true, true, true, false, false, false, true, true, false, false, false, false, false] rfl rfl (any_of HT_.out (by kernel_rfl)) (fun _ _ _ h => h) (Or.inl ⟨by rfl, ?_⟩) ?_ ?_
                                  rotate_left
                                  · intro w'
                                    go_simp
                                    with_reducible rfl
                                  rotate_left
                                  · simp only [Act.put, List.setIfInBounds_toArray, List.set_cons_zero, List.set_cons_succ, i64_w, i32_w]
                                    rfl
                                  refine take_ (i := 4) (N := some 67) (v := ?_) (a' := ?_) #[true, true, true, true, true, false, false, true, true, false, false, false, false, false] rfl rfl (take_ofW HT_.out HW_.out (by kernel_rfl)) (fun _ _ _ h => h) (Or.inl ⟨by rfl, ?_⟩) hHeld ?_ ?_
                                  rotate_left
                                  · rintro w' ⟨s0, s1⟩
                                    go_simp
                                    with_reducible rfl
                                  rotate_left
                                  · simp only [Act.put, List.setIfInBounds_toArray, List.set_cons_zero, List.set_cons_succ, i64_w, i32_w]
                                    rfl
                                  refine take_ (i := 9) (N := some 72) (v := ?_) (a' := ?_) #[true, true, true, true, true, false, false, true, true, true, false, false, false, false] rfl rfl (take_ofW HT_.out HW_.out (by kernel_rfl)) (fun _ _ _ h => h) (Or.inl ⟨by rfl, ?_⟩) hHeld ?_ ?_
                                  rotate_left
                                  · rintro w' ⟨s0, s1⟩
                                    go_simp
                                    with_reducible rfl
                                  rotate_left
                                  · simp only [Act.put, List.setIfInBounds_toArray, List.set_cons_zero, List.set_cons_succ, i64_w, i32_w]
                                    rfl
                                  refine join_ (σ := Value × Value × Value) 3 #[true, true, true, true, true, true, true, true, true, true, true, false, false, false] (fun s_ => [(68, s_.1), (69, s_.2.1), (73, s_.2.2)]) (fun s_ w' => (w'.cell? ⟨gb126, 0, none⟩ = some (.int .u64 (IntKind.u64.wrap (x127000_2 + 1))) ∧ w'.cell? ⟨gb126, 1, none⟩ = some (.int .u64 (IntKind.u64.wrap (Int.tdiv x127001_2 2)))) ∧ (Kd.R k70 70 w' w.heap.size (fun k_ => some k_ ≠ (s_.2.1 : Value).ownBlock ∧ some k_ ≠ (.slice (some ad125) t122.length co8 : Value).ownBlock ∧ k_ ≠ gb126) s_.1 y138) ∧ (Kd.R k70 70 w' w.heap.size (fun k_ => some k_ ≠ (s_.1 : Value).ownBlock ∧ some k_ ≠ (.slice (some ad125) t122.length co8 : Value).ownBlock ∧ k_ ≠ gb126) s_.2.1 y141) ∧ (Kd.R (Kd.int .u64) 23 w' w.heap.size (fun k_ => some k_ ≠ (.slice Ao32 x7_2.length co32 : Value).ownBlock) s_.2.2 y144) ∧ (Kd.R k70 70 w' w.heap.size (fun k_ => some k_ ≠ (s_.1 : Value).ownBlock ∧ some k_ ≠ (s_.2.1 : Value).ownBlock ∧ k_ ≠ gb126) (.slice (some ad125) t122.length co8) t122) ∧ (Kd.R (Kd.int .u64) 23 w' w.heap.size (fun k_ => some k_ ≠ (s_.2.2 : Value).ownBlock) (.slice Ao32 x7_2.length co32) x7_2) ∧ (w'.heap[gb126]? = some (.cells #[.int .u64 (IntKind.u64.wrap (x127000_2 + 1)), .int .u64 (IntKind.u64.wrap (Int.tdiv x127001_2 2))] 70 (0, 0))) ∧ (Below w.heap.size w w')) ?_ ?_
                                  rotate_left
                                  · intro hCont
                                    refine two_ (i := 5) (j := 10) (Ni := some 68) (Nj := some 73) #[true, true, true, true, true, true, false, true, true, true, false, false, false, false] #[true, true, true, true, true, false, false, true, true, true, true, false, false, false] rfl rfl rfl rfl (two_of HT_.out (by kernel_rfl)) (by decide) (by decide) (fun K hK => ?_) (fun K hK => ?_)
                                    · skip
                                      refine Kd.R_lit_step k70 _ 70 ?hg (N := 68) ?hd (xs := ([(⟨IntKind.u64.wrap (x127000_2 + 1), IntKind.u64.wrap (Int.tdiv x127001_2 2)⟩ : S70)] : List (S70))) (inner := [.int .u64 (IntKind.u64.wrap (x127000_2 + 1)), .int .u64 (IntKind.u64.wrap (Int.tdiv x127001_2 2))]) (ok := fun _ => True) (okp := fun _ => True) ?hr ?hp (fun _ hk => hk) trivial (Below.refl _ _) (Nat.le_refl _) (by simp) ?_; (case hd => rfl); (case hg => rfl); (case hr => first | (go_simp; done) | (go_simp; rfl)); (case hp => exact (Reps.c2 (show Kd.M k70 _ _ _ (⟨IntKind.u64.wrap (x127000_2 + 1), IntKind.u64.wrap (Int.tdiv x127001_2 2)⟩ : S70) [.int .u64 (IntKind.u64.wrap (x127000_2 + 1)), .int .u64 (IntKind.u64.wrap (Int.tdiv x127001_2 2))] from (k70_mkM _ _ _ (⟨IntKind.u64.wrap (x127000_2 + 1), IntKind.u64.wrap (Int.tdiv x127001_2 2)⟩ : S70) )) (Reps.none _ _)))
                                      intro v139 w36 ho37 hb hg_ hnew_
                                      clear hg_ hnew_
                                      (first | rw [← Ny138.out] at ho37 | (simp only [Int.reduceToNat] at ho37; rw [← Ny138.out] at ho37))
                                      have n0_ := Aside0.mk (Kd.R_below (by (with_reducible repeat (first | apply Kd.R_alloc | apply Kd.R_drewN | apply Kd.R_drew)); exact HO_7.out) hb)
                                      have n1_ := Aside0.mk (Kd.R_elder' (by (with_reducible repeat (first | apply Kd.R_alloc | apply Kd.R_drewN | apply Kd.R_drew)); exact HO137.out) (Kd.R_base ho37) hb)
                                      have n2_ := Aside0.mk (Kd.R_elder' (by (with_reducible repeat (first | apply Kd.R_alloc | apply Kd.R_drewN | apply Kd.R_drew)); exact HO_19.out) (Kd.R_base ho37) hb)
                                      have n3_ := Aside0.mk (Kd.R_lower (Kd.R_newB (Kd.R_new' (Kd.R_new' ho37 (Kd.R_lt (by (with_reducible repeat (first | apply Kd.R_alloc | apply Kd.R_drewN | apply Kd.R_drew)); exact HO137.out))) (Kd.R_lt (by (with_reducible repeat (first | apply Kd.R_alloc | apply Kd.R_drewN | apply Kd.R_drew)); exact HO_19.out))) (g := gb126) (o := .cells #[.int .u64 (IntKind.u64.wrap (x127000_2 + 1)), .int .u64 (IntKind.u64.wrap (Int.tdiv x127001_2 2))] 70 (0, 0)) (by (with_reducible repeat (first | refine blk_drewN ?_ _ | refine blk_drew ?_ | refine blk_alloc ?_ _)); exact BK126.out)) (below_size (by repeat (first | (with_reducible first | exact HB.out | apply below_alloc | apply pw_below_drewN | apply below_drew1 | refine below_set ?_ GE126.out) | exact HB.out))))
                                      have n4_ := Aside0.mk (blk_below (g := gb126) (o := .cells #[.int .u64 (IntKind.u64.wrap (x127000_2 + 1)), .int .u64 (IntKind.u64.wrap (Int.tdiv x127001_2 2))] 70 (0, 0)) (by (with_reducible repeat (first | refine blk_drewN ?_ _ | refine blk_drew ?_ | refine blk_alloc ?_ _)); exact BK126.out) hb)
                                      have n5_ := Aside0.mk (below_step (by repeat (first | (with_reducible first | exact HB.out | apply below_alloc | apply pw_below_drewN | apply below_drew1 | refine below_set ?_ GE126.out) | exact HB.out)) hb)
                                      clear HO_7
                                      clear HO137
                                      clear HO_19
                                      clear BK126
                                      clear HB
                                      have HO_7 := n0_
                                      have HO137 := n1_
                                      have HO_19 := n2_
                                      have HO140 := n3_
                                      have BK126 := n4_
                                      have HB := n5_
                                      clear n0_ n1_ n2_ n3_ n4_ n5_
                                      clear hb ho37
                                      obtain ⟨Ao39, co39, eo39⟩ := Kd.R_slice HO140.out
                                      (first | subst eo39 | (injection eo39 with f1_ f2_ f3_; have f4_ := f1_.symm; have f5_ := f3_.symm; clear f1_ f2_ f3_; subst f4_; subst f5_))
                                      refine hK.out _ _ ⟨(blk_cell BK126.out 0).trans rfl, (blk_cell BK126.out 1).trans rfl⟩ (fun hHeld => ?_)
                                      clear hK K
                                      refine norm_ (a' := ?_) ?_ ?_
                                      rotate_left
                                      · show Act.put _ (some 68) _ = _
                                        simp only [Act.put, List.setIfInBounds_toArray, List.set_cons_zero, List.set_cons_succ, i64_w, i32_w]
                                        rfl
                                      refine two_ (i := 6) (j := 10) (Ni := some 69) (Nj := some 73) #[true, true, true, true, true, true, true, true, true, true, false, false, false, false] #[true, true, true, true, true, true, false, true, true, true, true, false, false, false] rfl rfl rfl rfl (two_of HT_.out (by kernel_rfl)) (by decide) (by decide) (fun K hK => ?_) (fun K hK => ?_)
                                      · skip
                                        refine Kd.R_append_rows_step k70 (w0 := w) w.heap.size (by rfl) (.tmp 66) (.tmp 68) 29 70 (.agg #[(.int .u64 0), (.int .u64 0)]) 16 rfl Tryd.underlying29 info70 rfl (by decide) (by omega) (.slice (some ad133) y135.length co30) y135 y138 _ _ _ (fun k_ => some k_ ≠ (.slice (some ad125) t122.length co8 : Value).ownBlock ∧ some k_ ≠ (.slice Ao39 y138.length co39 : Value).ownBlock ∧ k_ ≠ gb126) (fun _ => False) rfl rfl ?aO ?aR (fun _ _ h => h) (fun _ h => h.elim) ?aF ?aB ?aS ?aL ?_
                                        (case aR => repeat (first | exact (Kd.R_reads' HO140.out).2.2 | (with_reducible refine Kd.C_alloc ?_ _) | (with_reducible refine Kd.C_drewN ?_ _) | (with_reducible refine Kd.C_drew ?_)))
                                        (case aB => exact (by repeat (first | (with_reducible first | exact HB.out | apply below_alloc | apply pw_below_drewN | apply below_drew1 | refine below_set ?_ GE126.out) | exact HB.out)))
                                        (case aF => exact (fun k_ hk => ⟨Kd.fresh' (Kd.R_lt (by (with_reducible repeat (first | apply Kd.R_alloc | apply Kd.R_drewN | apply Kd.R_drew)); exact HO_19.out)) k_ hk, Kd.fresh' (Kd.R_lt (by (with_reducible repeat (first | apply Kd.R_alloc | apply Kd.R_drewN | apply Kd.R_drew)); exact HO140.out)) k_ hk, Kd.freshB (g := gb126) (o := .cells #[.int .u64 (IntKind.u64.wrap (x127000_2 + 1)), .int .u64 (IntKind.u64.wrap (Int.tdiv x127001_2 2))] 70 (0, 0)) (by (with_reducible repeat (first | refine blk_drewN ?_ _ | refine blk_drew ?_ | refine blk_alloc ?_ _)); exact BK126.out) k_ hk⟩))
                                        (case aO => exact (by (with_reducible repeat (first | apply Kd.R_alloc | apply Kd.R_drewN | apply Kd.R_drew)); exact Kd.R_mono HO137.out (fun _ hk => ⟨hk.1.1, ⟨hk.2, hk.1.2⟩⟩)))
                                        (case aS => exact (below_size (by repeat (first | (with_reducible first | exact HB.out | apply below_alloc | apply pw_below_drewN | apply below_drew1 | refine below_set ?_ GE126.out) | exact HB.out))))
                                        (case aL => have := LMc27.out; omega)
                                        intro v142 w38 ho hb hg hat
                                        rw [← Ny141.out] at ho
                                        have n0_ := Aside0.mk (Kd.R_over' (by (with_reducible repeat (first | apply Kd.R_alloc | apply Kd.R_drewN | apply Kd.R_drew)); exact HO_7.out) (Kd.R_typed (by (with_reducible repeat (first | apply Kd.R_alloc | apply Kd.R_drewN | apply Kd.R_drew)); exact HO137.out)) (by decide) hg)
                                        have n1_ := Aside0.mk (Kd.R_after (ok := (fun k_ => some k_ ≠ (.slice Ao39 y138.length co39 : Value).ownBlock ∧ k_ ≠ gb126)) (by (with_reducible repeat (first | apply Kd.R_alloc | apply Kd.R_drewN | apply Kd.R_drew)); exact Kd.R_mono HO_19.out (fun _ hk => ⟨⟨hk.2, hk.1.2⟩, hk.1.1⟩)) hg hat)
                                        have n2_ := Aside0.mk (blk_grown (g := gb126) (o := .cells #[.int .u64 (IntKind.u64.wrap (x127000_2 + 1)), .int .u64 (IntKind.u64.wrap (Int.tdiv x127001_2 2))] 70 (0, 0)) (by (with_reducible repeat (first | refine blk_drewN ?_ _ | refine blk_drew ?_ | refine blk_alloc ?_ _)); exact BK126.out) hg (Kd.R_away HO137.out (fun _ hk => hk.1.2)))
                                        have n3_ := Aside0.mk (Kd.R_after (ok := (fun k_ => some k_ ≠ (.slice (some ad125) t122.length co8 : Value).ownBlock ∧ k_ ≠ gb126)) (by (with_reducible repeat (first | apply Kd.R_alloc | apply Kd.R_drewN | apply Kd.R_drew)); exact Kd.R_mono HO140.out (fun _ hk => ⟨⟨hk.1.2, hk.2⟩, hk.1.1.2⟩)) hg hat)
                                        have n4_ := Aside0.mk (hb)
                                        have n5_ := Aside0.mk (ho)
                                        clear HO_7
                                        clear HO_19
                                        clear BK126
                                        clear HO140
                                        clear HB
                                        clear HO137
                                        have HO_7 := n0_
                                        have HO_19 := n1_
                                        have BK126 := n2_
                                        have HO140 := n3_
                                        have HB := n4_
                                        have HO143 := n5_
                                        clear n0_ n1_ n2_ n3_ n4_ n5_
                                        clear ho hb hg hat
                                        refine hK.out _ _ ⟨(blk_cell BK126.out 0).trans rfl, (blk_cell BK126.out 1).trans rfl⟩ (fun hHeld => ?_)
                                        clear hK K
                                        refine norm_ (a' := ?_) ?_ ?_
                                        rotate_left
                                        · show Act.put _ (some 69) _ = _
                                          simp only [Act.put, List.setIfInBounds_toArray, List.set_cons_zero, List.set_cons_succ, i64_w, i32_w]
                                          rfl
                                        refine one_ (i := 10) (N := some 73) #[true, true, true, true, true, true, true, true, true, true, true, false, false, false] rfl rfl (one_of HT_.out (by kernel_rfl)) (by decide) (fun K hK => ?_)
                                        refine Kd.R_lit_step (Kd.int .u64) _ 23 ?hg (N := 73) ?hd (xs := ([IntKind.u64.wrap (x127000_2 + 1)] : List Int)) (inner := [.int .u64 (IntKind.u64.wrap (x127000_2 + 1))]) (ok := fun _ => True) (okp := fun _ => True) ?hr ?hp (fun _ hk => hk) trivial (Below.refl _ _) (Nat.le_refl _) (by simp) ?_; (case hd => rfl); (case hg => rfl); (case hr => first | (go_simp; done) | (go_simp; rfl)); (case hp => exact (Reps.one (show Kd.M (Kd.int .u64) _ _ _ (IntKind.u64.wrap (x127000_2 + 1)) [.int .u64 (IntKind.u64.wrap (x127000_2 + 1))] from rfl) (Reps.none _ _)))
                                        intro v145 w40 ho41 hb hg_ hnew_
                                        clear hg_ hnew_
                                        (first | rw [← Ny144.out] at ho41 | (simp only [Int.reduceToNat] at ho41; rw [← Ny144.out] at ho41))
                                        have n0_ := Aside0.mk (Kd.R_elder' (by (with_reducible repeat (first | apply Kd.R_alloc | apply Kd.R_drewN | apply Kd.R_drew)); exact HO_7.out) (Kd.R_base ho41) hb)
                                        have n1_ := Aside0.mk (Kd.R_below (by (with_reducible repeat (first | apply Kd.R_alloc | apply Kd.R_drewN | apply Kd.R_drew)); exact HO_19.out) hb)
                                        have n2_ := Aside0.mk (Kd.R_below (by (with_reducible repeat (first | apply Kd.R_alloc | apply Kd.R_drewN | apply Kd.R_drew)); exact HO140.out) hb)
                                        have n3_ := Aside0.mk (Kd.R_below (by (with_reducible repeat (first | apply Kd.R_alloc | apply Kd.R_drewN | apply Kd.R_drew)); exact HO143.out) hb)
                                        have n4_ := Aside0.mk (Kd.R_lower (Kd.R_new' ho41 (Kd.R_lt (by (with_reducible repeat (first | apply Kd.R_alloc | apply Kd.R_drewN | apply Kd.R_drew)); exact HO_7.out))) (below_size (by repeat (first | (with_reducible first | exact HB.out | apply below_alloc | apply pw_below_drewN | apply below_drew1 | refine below_set ?_ GE126.out) | exact HB.out))))
                                        have n5_ := Aside0.mk (blk_below (g := gb126) (o := .cells #[.int .u64 (IntKind.u64.wrap (x127000_2 + 1)), .int .u64 (IntKind.u64.wrap (Int.tdiv x127001_2 2))] 70 (0, 0)) (by (with_reducible repeat (first | refine blk_drewN ?_ _ | refine blk_drew ?_ | refine blk_alloc ?_ _)); exact BK126.out) hb)
                                        have n6_ := Aside0.mk (below_step (by repeat (first | (with_reducible first | exact HB.out | apply below_alloc | apply pw_below_drewN | apply below_drew1 | refine below_set ?_ GE126.out) | exact HB.out)) hb)
                                        clear HO_7
                                        clear HO_19
                                        clear HO140
                                        clear HO143
                                        clear BK126
                                        clear HB
                                        have HO_7 := n0_
                                        have HO_19 := n1_
                                        have HO140 := n2_
                                        have HO143 := n3_
                                        have HO146 := n4_
                                        have BK126 := n5_
                                        have HB := n6_
                                        clear n0_ n1_ n2_ n3_ n4_ n5_ n6_
                                        clear hb ho41
                                        refine hK.out _ _ ⟨(blk_cell BK126.out 0).trans rfl, (blk_cell BK126.out 1).trans rfl⟩ (fun hHeld => ?_)
                                        clear hK K
                                        refine norm_ (a' := ?_) ?_ ?_
                                        rotate_left
                                        · show Act.put _ (some 73) _ = _
                                          simp only [Act.put, List.setIfInBounds_toArray, List.set_cons_zero, List.set_cons_succ, i64_w, i32_w]
                                          rfl
                                        exact norm_ (by simp only [putAll, Act.put, List.setIfInBounds_toArray, List.set_cons_zero, List.set_cons_succ]) (hCont (.slice Ao39 y138.length co39, v142, v145) _ ⟨hHeld, (by (with_reducible repeat (first | apply Kd.R_alloc | apply Kd.R_drewN | apply Kd.R_drew)); exact Kd.R_mono HO140.out (fun _ hk => ⟨hk.2, ⟨hk.1.1, hk.1.2⟩⟩)), (by (with_reducible repeat (first | apply Kd.R_alloc | apply Kd.R_drewN | apply Kd.R_drew)); exact Kd.R_mono HO143.out (fun _ hk => ⟨hk.2.1, ⟨hk.1, hk.2.2⟩⟩)), (by (with_reducible repeat (first | apply Kd.R_alloc | apply Kd.R_drewN | apply Kd.R_drew)); exact Kd.R_mono HO146.out (fun _ hk => hk.2)), (by (with_reducible repeat (first | apply Kd.R_alloc | apply Kd.R_drewN | apply Kd.R_drew)); exact Kd.R_mono HO_19.out (fun _ hk => ⟨hk.1.1, ⟨hk.2, hk.1.2⟩⟩)), (by (with_reducible repeat (first | apply Kd.R_alloc | apply Kd.R_drewN | apply Kd.R_drew)); exact Kd.R_mono HO_7.out (fun _ hk => hk.2)), (by (with_reducible repeat (first | refine blk_drewN ?_ _ | refine blk_drew ?_ | refine blk_alloc ?_ _)); exact BK126.out), (by repeat (first | (with_reducible first | exact HB.out | apply below_alloc | apply pw_below_drewN | apply below_drew1 | refine below_set ?_ GE126.out) | exact HB.out))⟩)
                                      · skip
                                        refine Kd.R_lit_step (Kd.int .u64) _ 23 ?hg (N := 73) ?hd (xs := ([IntKind.u64.wrap (x127000_2 + 1)] : List Int)) (inner := [.int .u64 (IntKind.u64.wrap (x127000_2 + 1))]) (ok := fun _ => True) (okp := fun _ => True) ?hr ?hp (fun _ hk => hk) trivial (Below.refl _ _) (Nat.le_refl _) (by simp) ?_; (case hd => rfl); (case hg => rfl); (case hr => first | (go_simp; done) | (go_simp; rfl)); (case hp => exact (Reps.one (show Kd.M (Kd.int .u64) _ _ _ (IntKind.u64.wrap (x127000_2 + 1)) [.int .u64 (IntKind.u64.wrap (x127000_2 + 1))] from rfl) (Reps.none _ _)))
                                        intro v145 w38 ho39 hb hg_ hnew_
                                        clear hg_ hnew_
                                        (first | rw [← Ny144.out] at ho39 | (simp only [Int.reduceToNat] at ho39; rw [← Ny144.out] at ho39))
                                        have n0_ := Aside0.mk (Kd.R_elder' (by (with_reducible repeat (first | apply Kd.R_alloc | apply Kd.R_drewN | apply Kd.R_drew)); exact HO_7.out) (Kd.R_base ho39) hb)
                                        have n1_ := Aside0.mk (Kd.R_below (by (with_reducible repeat (first | apply Kd.R_alloc | apply Kd.R_drewN | apply Kd.R_drew)); exact HO137.out) hb)
                                        have n2_ := Aside0.mk (Kd.R_below (by (with_reducible repeat (first | apply Kd.R_alloc | apply Kd.R_drewN | apply Kd.R_drew)); exact HO_19.out) hb)
                                        have n3_ := Aside0.mk (Kd.R_below (by (with_reducible repeat (first | apply Kd.R_alloc | apply Kd.R_drewN | apply Kd.R_drew)); exact HO140.out) hb)
                                        have n4_ := Aside0.mk (Kd.R_lower (Kd.R_new' ho39 (Kd.R_lt (by (with_reducible repeat (first | apply Kd.R_alloc | apply Kd.R_drewN | apply Kd.R_drew)); exact HO_7.out))) (below_size (by repeat (first | (with_reducible first | exact HB.out | apply below_alloc | apply pw_below_drewN | apply below_drew1 | refine below_set ?_ GE126.out) | exact HB.out))))
                                        have n5_ := Aside0.mk (blk_below (g := gb126) (o := .cells #[.int .u64 (IntKind.u64.wrap (x127000_2 + 1)), .int .u64 (IntKind.u64.wrap (Int.tdiv x127001_2 2))] 70 (0, 0)) (by (with_reducible repeat (first | refine blk_drewN ?_ _ | refine blk_drew ?_ | refine blk_alloc ?_ _)); exact BK126.out) hb)
                                        have n6_ := Aside0.mk (below_step (by repeat (first | (with_reducible first | exact HB.out | apply below_alloc | apply pw_below_drewN | apply below_drew1 | refine below_set ?_ GE126.out) | exact HB.out)) hb)
                                        clear HO_7
                                        clear HO137
                                        clear HO_19
                                        clear HO140
                                        clear BK126
                                        clear HB
                                        have HO_7 := n0_
                                        have HO137 := n1_
                                        have HO_19 := n2_
                                        have HO140 := n3_
                                        have HO146 := n4_
                                        have BK126 := n5_
                                        have HB := n6_
                                        clear n0_ n1_ n2_ n3_ n4_ n5_ n6_
                                        clear hb ho39
                                        obtain ⟨Ao41, co41, eo41⟩ := Kd.R_slice HO140.out
                                        (first | subst eo41 | (injection eo41 with f1_ f2_ f3_; have f4_ := f1_.symm; have f5_ := f3_.symm; clear f1_ f2_ f3_; subst f4_; subst f5_))
                                        refine hK.out _ _ ⟨(blk_cell BK126.out 0).trans rfl, (blk_cell BK126.out 1).trans rfl⟩ (fun hHeld => ?_)
                                        clear hK K
                                        refine norm_ (a' := ?_) ?_ ?_
                                        rotate_left
                                        · show Act.put _ (some 73) _ = _
                                          simp only [Act.put, List.setIfInBounds_toArray, List.set_cons_zero, List.set_cons_succ, i64_w, i32_w]
                                          rfl
                                        refine one_ (i := 6) (N := some 69) #[true, true, true, true, true, true, true, true, true, true, true, false, false, false] rfl rfl (one_of HT_.out (by kernel_rfl)) (by decide) (fun K hK => ?_)
                                        refine Kd.R_append_rows_step k70 (w0 := w) w.heap.size (by rfl) (.tmp 66) (.tmp 68) 29 70 (.agg #[(.int .u64 0), (.int .u64 0)]) 16 rfl Tryd.underlying29 info70 rfl (by decide) (by omega) (.slice (some ad133) y135.length co30) y135 y138 _ _ _ (fun k_ => some k_ ≠ (.slice (some ad125) t122.length co8 : Value).ownBlock ∧ some k_ ≠ (.slice Ao41 y138.length co41 : Value).ownBlock ∧ k_ ≠ gb126) (fun _ => False) rfl rfl ?aO ?aR (fun _ _ h => h) (fun _ h => h.elim) ?aF ?aB ?aS ?aL ?_
                                        (case aR => repeat (first | exact (Kd.R_reads' HO140.out).2.2 | (with_reducible refine Kd.C_alloc ?_ _) | (with_reducible refine Kd.C_drewN ?_ _) | (with_reducible refine Kd.C_drew ?_)))
                                        (case aB => exact (by repeat (first | (with_reducible first | exact HB.out | apply below_alloc | apply pw_below_drewN | apply below_drew1 | refine below_set ?_ GE126.out) | exact HB.out)))
                                        (case aF => exact (fun k_ hk => ⟨Kd.fresh' (Kd.R_lt (by (with_reducible repeat (first | apply Kd.R_alloc | apply Kd.R_drewN | apply Kd.R_drew)); exact HO_19.out)) k_ hk, Kd.fresh' (Kd.R_lt (by (with_reducible repeat (first | apply Kd.R_alloc | apply Kd.R_drewN | apply Kd.R_drew)); exact HO140.out)) k_ hk, Kd.freshB (g := gb126) (o := .cells #[.int .u64 (IntKind.u64.wrap (x127000_2 + 1)), .int .u64 (IntKind.u64.wrap (Int.tdiv x127001_2 2))] 70 (0, 0)) (by (with_reducible repeat (first | refine blk_drewN ?_ _ | refine blk_drew ?_ | refine blk_alloc ?_ _)); exact BK126.out) k_ hk⟩))
                                        (case aO => exact (by (with_reducible repeat (first | apply Kd.R_alloc | apply Kd.R_drewN | apply Kd.R_drew)); exact Kd.R_mono HO137.out (fun _ hk => ⟨hk.1.1, ⟨hk.2, hk.1.2⟩⟩)))
                                        (case aS => exact (below_size (by repeat (first | (with_reducible first | exact HB.out | apply below_alloc | apply pw_below_drewN | apply below_drew1 | refine below_set ?_ GE126.out) | exact HB.out))))
                                        (case aL => have := LMc27.out; omega)
                                        intro v142 w40 ho hb hg hat
                                        rw [← Ny141.out] at ho
                                        have n0_ := Aside0.mk (Kd.R_over' (by (with_reducible repeat (first | apply Kd.R_alloc | apply Kd.R_drewN | apply Kd.R_drew)); exact HO_7.out) (Kd.R_typed (by (with_reducible repeat (first | apply Kd.R_alloc | apply Kd.R_drewN | apply Kd.R_drew)); exact HO137.out)) (by decide) hg)
                                        have n1_ := Aside0.mk (Kd.R_after (ok := (fun k_ => some k_ ≠ (.slice Ao41 y138.length co41 : Value).ownBlock ∧ k_ ≠ gb126)) (by (with_reducible repeat (first | apply Kd.R_alloc | apply Kd.R_drewN | apply Kd.R_drew)); exact Kd.R_mono HO_19.out (fun _ hk => ⟨⟨hk.2, hk.1.2⟩, hk.1.1⟩)) hg hat)
                                        have n2_ := Aside0.mk (blk_grown (g := gb126) (o := .cells #[.int .u64 (IntKind.u64.wrap (x127000_2 + 1)), .int .u64 (IntKind.u64.wrap (Int.tdiv x127001_2 2))] 70 (0, 0)) (by (with_reducible repeat (first | refine blk_drewN ?_ _ | refine blk_drew ?_ | refine blk_alloc ?_ _)); exact BK126.out) hg (Kd.R_away HO137.out (fun _ hk => hk.1.2)))
                                        have n3_ := Aside0.mk (Kd.R_after (ok := (fun k_ => some k_ ≠ (.slice (some ad125) t122.length co8 : Value).ownBlock ∧ k_ ≠ gb126)) (by (with_reducible repeat (first | apply Kd.R_alloc | apply Kd.R_drewN | apply Kd.R_drew)); exact Kd.R_mono HO140.out (fun _ hk => ⟨⟨hk.1.2, hk.2⟩, hk.1.1.2⟩)) hg hat)
                                        have n4_ := Aside0.mk (Kd.R_over' (by (with_reducible repeat (first | apply Kd.R_alloc | apply Kd.R_drewN | apply Kd.R_drew)); exact HO146.out) (Kd.R_typed (by (with_reducible repeat (first | apply Kd.R_alloc | apply Kd.R_drewN | apply Kd.R_drew)); exact HO137.out)) (by decide) hg)
                                        have n5_ := Aside0.mk (hb)
                                        have n6_ := Aside0.mk (ho)
                                        clear HO_7
                                        clear HO_19
                                        clear BK126
                                        clear HO140
                                        clear HO146
                                        clear HB
                                        clear HO137
                                        have HO_7 := n0_
                                        have HO_19 := n1_
                                        have BK126 := n2_
                                        have HO140 := n3_
                                        have HO146 := n4_
                                        have HB := n5_
                                        have HO143 := n6_
                                        clear n0_ n1_ n2_ n3_ n4_ n5_ n6_
                                        clear ho hb hg hat
                                        refine hK.out _ _ ⟨(blk_cell BK126.out 0).trans rfl, (blk_cell BK126.out 1).trans rfl⟩ (fun hHeld => ?_)
                                        clear hK K
                                        refine norm_ (a' := ?_) ?_ ?_
                                        rotate_left
                                        · show Act.put _ (some 69) _ = _
                                          simp only [Act.put, List.setIfInBounds_toArray, List.set_cons_zero, List.set_cons_succ, i64_w, i32_w]
                                          rfl
                                        exact norm_ (by simp only [putAll, Act.put, List.setIfInBounds_toArray, List.set_cons_zero, List.set_cons_succ]) (hCont (.slice Ao41 y138.length co41, v142, v145) _ ⟨hHeld, (by (with_reducible repeat (first | apply Kd.R_alloc | apply Kd.R_drewN | apply Kd.R_drew)); exact Kd.R_mono HO140.out (fun _ hk => ⟨hk.2, ⟨hk.1.1, hk.1.2⟩⟩)), (by (with_reducible repeat (first | apply Kd.R_alloc | apply Kd.R_drewN | apply Kd.R_drew)); exact Kd.R_mono HO143.out (fun _ hk => ⟨hk.2.1, ⟨hk.1, hk.2.2⟩⟩)), (by (with_reducible repeat (first | apply Kd.R_alloc | apply Kd.R_drewN | apply Kd.R_drew)); exact Kd.R_mono HO146.out (fun _ hk => hk.2)), (by (with_reducible repeat (first | apply Kd.R_alloc | apply Kd.R_drewN | apply Kd.R_drew)); exact Kd.R_mono HO_19.out (fun _ hk => ⟨hk.1.1, ⟨hk.2, hk.1.2⟩⟩)), (by (with_reducible repeat (first | apply Kd.R_alloc | apply Kd.R_drewN | apply Kd.R_drew)); exact Kd.R_mono HO_7.out (fun _ hk => hk.2)), (by (with_reducible repeat (first | refine blk_drewN ?_ _ | refine blk_drew ?_ | refine blk_alloc ?_ _)); exact BK126.out), (by repeat (first | (with_reducible first | exact HB.out | apply below_alloc | apply pw_below_drewN | apply below_drew1 | refine below_set ?_ GE126.out) | exact HB.out))⟩)
                                    · skip
                                      refine Kd.R_lit_step (Kd.int .u64) _ 23 ?hg (N := 73) ?hd (xs := ([IntKind.u64.wrap (x127000_2 + 1)] : List Int)) (inner := [.int .u64 (IntKind.u64.wrap (x127000_2 + 1))]) (ok := fun _ => True) (okp := fun _ => True) ?hr ?hp (fun _ hk => hk) trivial (Below.refl _ _) (Nat.le_refl _) (by simp) ?_; (case hd => rfl); (case hg => rfl); (case hr => first | (go_simp; done) | (go_simp; rfl)); (case hp => exact (Reps.one (show Kd.M (Kd.int .u64) _ _ _ (IntKind.u64.wrap (x127000_2 + 1)) [.int .u64 (IntKind.u64.wrap (x127000_2 + 1))] from rfl) (Reps.none _ _)))
                                      intro v145 w36 ho37 hb hg_ hnew_
                                      clear hg_ hnew_
                                      (first | rw [← Ny144.out] at ho37 | (simp only [Int.reduceToNat] at ho37; rw [← Ny144.out] at ho37))
                                      have n0_ := Aside0.mk (Kd.R_elder' (by (with_reducible repeat (first | apply Kd.R_alloc | apply Kd.R_drewN | apply Kd.R_drew)); exact HO_7.out) (Kd.R_base ho37) hb)
                                      have n1_ := Aside0.mk (Kd.R_below (by (with_reducible repeat (first | apply Kd.R_alloc | apply Kd.R_drewN | apply Kd.R_drew)); exact HO137.out) hb)
                                      have n2_ := Aside0.mk (Kd.R_below (by (with_reducible repeat (first | apply Kd.R_alloc | apply Kd.R_drewN | apply Kd.R_drew)); exact HO_19.out) hb)
                                      have n3_ := Aside0.mk (Kd.R_lower (Kd.R_new' ho37 (Kd.R_lt (by (with_reducible repeat (first | apply Kd.R_alloc | apply Kd.R_drewN | apply Kd.R_drew)); exact HO_7.out))) (below_size (by repeat (first | (with_reducible first | exact HB.out | apply below_alloc | apply pw_below_drewN | apply below_drew1 | refine below_set ?_ GE126.out) | exact HB.out))))
                                      have n4_ := Aside0.mk (blk_below (g := gb126) (o := .cells #[.int .u64 (IntKind.u64.wrap (x127000_2 + 1)), .int .u64 (IntKind.u64.wrap (Int.tdiv x127001_2 2))] 70 (0, 0)) (by (with_reducible repeat (first | refine blk_drewN ?_ _ | refine blk_drew ?_ | refine blk_alloc ?_ _)); exact BK126.out) hb)
                                      have n5_ := Aside0.mk (below_step (by repeat (first | (with_reducible first | exact HB.out | apply below_alloc | apply pw_below_drewN | apply below_drew1 | refine below_set ?_ GE126.out) | exact HB.out)) hb)
                                      clear HO_7
                                      clear HO137
                                      clear HO_19
                                      clear BK126
                                      clear HB
                                      have HO_7 := n0_
                                      have HO137 := n1_
                                      have HO_19 := n2_
                                      have HO146 := n3_
                                      have BK126 := n4_
                                      have HB := n5_
                                      clear n0_ n1_ n2_ n3_ n4_ n5_
                                      clear hb ho37
                                      refine hK.out _ _ ⟨(blk_cell BK126.out 0).trans rfl, (blk_cell BK126.out 1).trans rfl⟩ (fun hHeld => ?_)
                                      clear hK K
                                      refine norm_ (a' := ?_) ?_ ?_
                                      rotate_left
                                      · show Act.put _ (some 73) _ = _
                                        simp only [Act.put, List.setIfInBounds_toArray, List.set_cons_zero, List.set_cons_succ, i64_w, i32_w]
                                        rfl
                                      refine one_ (i := 5) (N := some 68) #[true, true, true, true, true, true, false, true, true, true, true, false, false, false] rfl rfl (one_of HT_.out (by kernel_rfl)) (by decide) (fun K hK => ?_)
                                      refine Kd.R_lit_step k70 _ 70 ?hg (N := 68) ?hd (xs := ([(⟨IntKind.u64.wrap (x127000_2 + 1), IntKind.u64.wrap (Int.tdiv x127001_2 2)⟩ : S70)] : List (S70))) (inner := [.int .u64 (IntKind.u64.wrap (x127000_2 + 1)), .int .u64 (IntKind.u64.wrap (Int.tdiv x127001_2 2))]) (ok := fun _ => True) (okp := fun _ => True) ?hr ?hp (fun _ hk => hk) trivial (Below.refl _ _) (Nat.le_refl _) (by simp) ?_; (case hd => rfl); (case hg => rfl); (case hr => first | (go_simp; done) | (go_simp; rfl)); (case hp => exact (Reps.c2 (show Kd.M k70 _ _ _ (⟨IntKind.u64.wrap (x127000_2 + 1), IntKind.u64.wrap (Int.tdiv x127001_2 2)⟩ : S70) [.int .u64 (IntKind.u64.wrap (x127000_2 + 1)), .int .u64 (IntKind.u64.wrap (Int.tdiv x127001_2 2))] from (k70_mkM _ _ _ (⟨IntKind.u64.wrap (x127000_2 + 1), IntKind.u64.wrap (Int.tdiv x127001_2 2)⟩ : S70) )) (Reps.none _ _)))
                                      intro v139 w38 ho39 hb hg_ hnew_
                                      clear hg_ hnew_
                                      (first | rw [← Ny138.out] at ho39 | (simp only [Int.reduceToNat] at ho39; rw [← Ny138.out] at ho39))
                                      have n0_ := Aside0.mk (Kd.R_below (by (with_reducible repeat (first | apply Kd.R_alloc | apply Kd.R_drewN | apply Kd.R_drew)); exact HO_7.out) hb)
                                      have n1_ := Aside0.mk (Kd.R_elder' (by (with_reducible repeat (first | apply Kd.R_alloc | apply Kd.R_drewN | apply Kd.R_drew)); exact HO137.out) (Kd.R_base ho39) hb)
                                      have n2_ := Aside0.mk (Kd.R_elder' (by (with_reducible repeat (first | apply Kd.R_alloc | apply Kd.R_drewN | apply Kd.R_drew)); exact HO_19.out) (Kd.R_base ho39) hb)
                                      have n3_ := Aside0.mk (Kd.R_below (by (with_reducible repeat (first | apply Kd.R_alloc | apply Kd.R_drewN | apply Kd.R_drew)); exact HO146.out) hb)
                                      have n4_ := Aside0.mk (Kd.R_lower (Kd.R_newB (Kd.R_new' (Kd.R_new' ho39 (Kd.R_lt (by (with_reducible repeat (first | apply Kd.R_alloc | apply Kd.R_drewN | apply Kd.R_drew)); exact HO137.out))) (Kd.R_lt (by (with_reducible repeat (first | apply Kd.R_alloc | apply Kd.R_drewN | apply Kd.R_drew)); exact HO_19.out))) (g := gb126) (o := .cells #[.int .u64 (IntKind.u64.wrap (x127000_2 + 1)), .int .u64 (IntKind.u64.wrap (Int.tdiv x127001_2 2))] 70 (0, 0)) (by (with_reducible repeat (first | refine blk_drewN ?_ _ | refine blk_drew ?_ | refine blk_alloc ?_ _)); exact BK126.out)) (below_size (by repeat (first | (with_reducible first | exact HB.out | apply below_alloc | apply pw_below_drewN | apply below_drew1 | refine below_set ?_ GE126.out) | exact HB.out))))
                                      have n5_ := Aside0.mk (blk_below (g := gb126) (o := .cells #[.int .u64 (IntKind.u64.wrap (x127000_2 + 1)), .int .u64 (IntKind.u64.wrap (Int.tdiv x127001_2 2))] 70 (0, 0)) (by (with_reducible repeat (first | refine blk_drewN ?_ _ | refine blk_drew ?_ | refine blk_alloc ?_ _)); exact BK126.out) hb)
                                      have n6_ := Aside0.mk (below_step (by repeat (first | (with_reducible first | exact HB.out | apply below_alloc | apply pw_below_drewN | apply below_drew1 | refine below_set ?_ GE126.out) | exact HB.out)) hb)
                                      clear HO_7
                                      clear HO137
                                      clear HO_19
                                      clear HO146
                                      clear BK126
                                      clear HB
                                      have HO_7 := n0_
                                      have HO137 := n1_
                                      have HO_19 := n2_
                                      have HO146 := n3_
                                      have HO140 := n4_
                                      have BK126 := n5_
                                      have HB := n6_
                                      clear n0_ n1_ n2_ n3_ n4_ n5_ n6_
                                      clear hb ho39
                                      obtain ⟨Ao41, co41, eo41⟩ := Kd.R_slice HO140.out
                                      (first | subst eo41 | (injection eo41 with f1_ f2_ f3_; have f4_ := f1_.symm; have f5_ := f3_.symm; clear f1_ f2_ f3_; subst f4_; subst f5_))
                                      refine hK.out _ _ ⟨(blk_cell BK126.out 0).trans rfl, (blk_cell BK126.out 1).trans rfl⟩ (fun hHeld => ?_)
                                      clear hK K
                                      refine norm_ (a' := ?_) ?_ ?_
                                      rotate_left
                                      · show Act.put _ (some 68) _ = _
                                        simp only [Act.put, List.setIfInBounds_toArray, List.set_cons_zero, List.set_cons_succ, i64_w, i32_w]
                                        rfl
                                      refine one_ (i := 6) (N := some 69) #[true, true, true, true, true, true, true, true, true, true, true, false, false, false] rfl rfl (one_of HT_.out (by kernel_rfl)) (by decide) (fun K hK => ?_)
                                      refine Kd.R_append_rows_step k70 (w0 := w) w.heap.size (by rfl) (.tmp 66) (.tmp 68) 29 70 (.agg #[(.int .u64 0), (.int .u64 0)]) 16 rfl Tryd.underlying29 info70 rfl (by decide) (by omega) (.slice (some ad133) y135.length co30) y135 y138 _ _ _ (fun k_ => some k_ ≠ (.slice (some ad125) t122.length co8 : Value).ownBlock ∧ some k_ ≠ (.slice Ao41 y138.length co41 : Value).ownBlock ∧ k_ ≠ gb126) (fun _ => False) rfl rfl ?aO ?aR (fun _ _ h => h) (fun _ h => h.elim) ?aF ?aB ?aS ?aL ?_
                                      (case aR => repeat (first | exact (Kd.R_reads' HO140.out).2.2 | (with_reducible refine Kd.C_alloc ?_ _) | (with_reducible refine Kd.C_drewN ?_ _) | (with_reducible refine Kd.C_drew ?_)))
                                      (case aB => exact (by repeat (first | (with_reducible first | exact HB.out | apply below_alloc | apply pw_below_drewN | apply below_drew1 | refine below_set ?_ GE126.out) | exact HB.out)))
                                      (case aF => exact (fun k_ hk => ⟨Kd.fresh' (Kd.R_lt (by (with_reducible repeat (first | apply Kd.R_alloc | apply Kd.R_drewN | apply Kd.R_drew)); exact HO_19.out)) k_ hk, Kd.fresh' (Kd.R_lt (by (with_reducible repeat (first | apply Kd.R_alloc | apply Kd.R_drewN | apply Kd.R_drew)); exact HO140.out)) k_ hk, Kd.freshB (g := gb126) (o := .cells #[.int .u64 (IntKind.u64.wrap (x127000_2 + 1)), .int .u64 (IntKind.u64.wrap (Int.tdiv x127001_2 2))] 70 (0, 0)) (by (with_reducible repeat (first | refine blk_drewN ?_ _ | refine blk_drew ?_ | refine blk_alloc ?_ _)); exact BK126.out) k_ hk⟩))
                                      (case aO => exact (by (with_reducible repeat (first | apply Kd.R_alloc | apply Kd.R_drewN | apply Kd.R_drew)); exact Kd.R_mono HO137.out (fun _ hk => ⟨hk.1.1, ⟨hk.2, hk.1.2⟩⟩)))
                                      (case aS => exact (below_size (by repeat (first | (with_reducible first | exact HB.out | apply below_alloc | apply pw_below_drewN | apply below_drew1 | refine below_set ?_ GE126.out) | exact HB.out))))
                                      (case aL => have := LMc27.out; omega)
                                      intro v142 w40 ho hb hg hat
                                      rw [← Ny141.out] at ho
                                      have n0_ := Aside0.mk (Kd.R_over' (by (with_reducible repeat (first | apply Kd.R_alloc | apply Kd.R_drewN | apply Kd.R_drew)); exact HO_7.out) (Kd.R_typed (by (with_reducible repeat (first | apply Kd.R_alloc | apply Kd.R_drewN | apply Kd.R_drew)); exact HO137.out)) (by decide) hg)
                                      have n1_ := Aside0.mk (Kd.R_after (ok := (fun k_ => some k_ ≠ (.slice Ao41 y138.length co41 : Value).ownBlock ∧ k_ ≠ gb126)) (by (with_reducible repeat (first | apply Kd.R_alloc | apply Kd.R_drewN | apply Kd.R_drew)); exact Kd.R_mono HO_19.out (fun _ hk => ⟨⟨hk.2, hk.1.2⟩, hk.1.1⟩)) hg hat)
                                      have n2_ := Aside0.mk (blk_grown (g := gb126) (o := .cells #[.int .u64 (IntKind.u64.wrap (x127000_2 + 1)), .int .u64 (IntKind.u64.wrap (Int.tdiv x127001_2 2))] 70 (0, 0)) (by (with_reducible repeat (first | refine blk_drewN ?_ _ | refine blk_drew ?_ | refine blk_alloc ?_ _)); exact BK126.out) hg (Kd.R_away HO137.out (fun _ hk => hk.1.2)))
                                      have n3_ := Aside0.mk (Kd.R_over' (by (with_reducible repeat (first | apply Kd.R_alloc | apply Kd.R_drewN | apply Kd.R_drew)); exact HO146.out) (Kd.R_typed (by (with_reducible repeat (first | apply Kd.R_alloc | apply Kd.R_drewN | apply Kd.R_drew)); exact HO137.out)) (by decide) hg)
                                      have n4_ := Aside0.mk (Kd.R_after (ok := (fun k_ => some k_ ≠ (.slice (some ad125) t122.length co8 : Value).ownBlock ∧ k_ ≠ gb126)) (by (with_reducible repeat (first | apply Kd.R_alloc | apply Kd.R_drewN | apply Kd.R_drew)); exact Kd.R_mono HO140.out (fun _ hk => ⟨⟨hk.1.2, hk.2⟩, hk.1.1.2⟩)) hg hat)
                                      have n5_ := Aside0.mk (hb)
                                      have n6_ := Aside0.mk (ho)
                                      clear HO_7
                                      clear HO_19
                                      clear BK126
                                      clear HO146
                                      clear HO140
                                      clear HB
                                      clear HO137
                                      have HO_7 := n0_
                                      have HO_19 := n1_
                                      have BK126 := n2_
                                      have HO146 := n3_
                                      have HO140 := n4_
                                      have HB := n5_
                                      have HO143 := n6_
                                      clear n0_ n1_ n2_ n3_ n4_ n5_ n6_
                                      clear ho hb hg hat
                                      refine hK.out _ _ ⟨(blk_cell BK126.out 0).trans rfl, (blk_cell BK126.out 1).trans rfl⟩ (fun hHeld => ?_)
                                      clear hK K
                                      refine norm_ (a' := ?_) ?_ ?_
                                      rotate_left
                                      · show Act.put _ (some 69) _ = _
                                        simp only [Act.put, List.setIfInBounds_toArray, List.set_cons_zero, List.set_cons_succ, i64_w, i32_w]
                                        rfl
                                      exact norm_ (by simp only [putAll, Act.put, List.setIfInBounds_toArray, List.set_cons_zero, List.set_cons_succ]) (hCont (.slice Ao41 y138.length co41, v142, v145) _ ⟨hHeld, (by (with_reducible repeat (first | apply Kd.R_alloc | apply Kd.R_drewN | apply Kd.R_drew)); exact Kd.R_mono HO140.out (fun _ hk => ⟨hk.2, ⟨hk.1.1, hk.1.2⟩⟩)), (by (with_reducible repeat (first | apply Kd.R_alloc | apply Kd.R_drewN | apply Kd.R_drew)); exact Kd.R_mono HO143.out (fun _ hk => ⟨hk.2.1, ⟨hk.1, hk.2.2⟩⟩)), (by (with_reducible repeat (first | apply Kd.R_alloc | apply Kd.R_drewN | apply Kd.R_drew)); exact Kd.R_mono HO146.out (fun _ hk => hk.2)), (by (with_reducible repeat (first | apply Kd.R_alloc | apply Kd.R_drewN | apply Kd.R_drew)); exact Kd.R_mono HO_19.out (fun _ hk => ⟨hk.1.1, ⟨hk.2, hk.1.2⟩⟩)), (by (with_reducible repeat (first | apply Kd.R_alloc | apply Kd.R_drewN | apply Kd.R_drew)); exact Kd.R_mono HO_7.out (fun _ hk => hk.2)), (by (with_reducible repeat (first | refine blk_drewN ?_ _ | refine blk_drew ?_ | refine blk_alloc ?_ _)); exact BK126.out), (by repeat (first | (with_reducible first | exact HB.out | apply below_alloc | apply pw_below_drewN | apply below_drew1 | refine below_set ?_ GE126.out) | exact HB.out))⟩)
                                  rintro ⟨v139, v142, v145⟩ w42 ⟨hS_, h0_, h1_, h2_, h3_, h4_, h5_, h6_⟩
                                  have n0_ : Aside0 (Kd.R k70 70 w42 w.heap.size (fun k_ => some k_ ≠ (v142 : Value).ownBlock ∧ some k_ ≠ (.slice (some ad125) t122.length co8 : Value).ownBlock ∧ k_ ≠ gb126) v139 y138) := ⟨h0_⟩
                                  have n1_ : Aside0 (Kd.R k70 70 w42 w.heap.size (fun k_ => some k_ ≠ (v139 : Value).ownBlock ∧ some k_ ≠ (.slice (some ad125) t122.length co8 : Value).ownBlock ∧ k_ ≠ gb126) v142 y141) := ⟨h1_⟩
                                  have n2_ : Aside0 (Kd.R (Kd.int .u64) 23 w42 w.heap.size (fun k_ => some k_ ≠ (.slice Ao32 x7_2.length co32 : Value).ownBlock) v145 y144) := ⟨h2_⟩
                                  have n3_ : Aside0 (Kd.R k70 70 w42 w.heap.size (fun k_ => some k_ ≠ (v139 : Value).ownBlock ∧ some k_ ≠ (v142 : Value).ownBlock ∧ k_ ≠ gb126) (.slice (some ad125) t122.length co8) t122) := ⟨h3_⟩
                                  have n4_ : Aside0 (Kd.R (Kd.int .u64) 23 w42 w.heap.size (fun k_ => some k_ ≠ (v145 : Value).ownBlock) (.slice Ao32 x7_2.length co32) x7_2) := ⟨h4_⟩
                                  have n5_ : Aside0 (w42.heap[gb126]? = some (.cells #[.int .u64 (IntKind.u64.wrap (x127000_2 + 1)), .int .u64 (IntKind.u64.wrap (Int.tdiv x127001_2 2))] 70 (0, 0))) := ⟨h5_⟩
                                  have n6_ : Aside0 (Below w.heap.size w w42) := ⟨h6_⟩
                                  clear HO_7
                                  clear HO_8
                                  clear HO_19
                                  clear BK126
                                  clear HB
                                  clear h0_ h1_ h2_ h3_ h4_ h5_ h6_
                                  have HO140 := n0_
                                  have HO143 := n1_
                                  have HO146 := n2_
                                  have HO_19 := n3_
                                  have HO_7 := n4_
                                  have BK126 := n5_
                                  have HB := n6_
                                  clear n0_ n1_ n2_ n3_ n4_ n5_ n6_
                                  have hHeld : w42.cell? ⟨gb126, 0, none⟩ = some (.int .u64 (IntKind.u64.wrap (x127000_2 + 1))) ∧ w42.cell? ⟨gb126, 1, none⟩ = some (.int .u64 (IntKind.u64.wrap (Int.tdiv x127001_2 2))) := hS_
                                  obtain ⟨Ao44, co44, eo44⟩ := Kd.R_slice HO146.out
                                  (first | subst eo44 | (injection eo44 with f1_ f2_ f3_; have f4_ := f1_.symm; have f5_ := f3_.symm; clear f1_ f2_ f3_; subst f4_; subst f5_))
                                  refine norm_ (a' := ?_) ?_ ?_
                                  rotate_left
                                  · simp only [putAll, Act.put, List.setIfInBounds_toArray, List.set_cons_zero, List.set_cons_succ]
                                    rfl
                                  refine one_ (i := 11) (N := some 74) #[true, true, true, true, true, true, true, true, true, true, true, true, false, false] rfl rfl (one_of HT_.out (by kernel_rfl)) (by decide) (fun K hK => ?_)
                                  refine Kd.R_append_rows_step (Kd.int .u64) (w0 := w) w.heap.size (by rfl) (.tmp 70) (.tmp 73) 26 23 (.int .u64 0) 8 rfl Tryd.underlying26 info23 rfl (by decide) (by omega) (.slice Ao32 x7_2.length co32) x7_2 y144 _ _ _ (fun k_ => some k_ ≠ (.slice Ao44 y144.length co44 : Value).ownBlock) (fun _ => False) rfl rfl ?aO ?aR (fun _ _ h => h) (fun _ h => h.elim) ?aF ?aB ?aS ?aL ?_
                                  (case aR => repeat (first | exact (Kd.R_reads' HO146.out).2.2 | (with_reducible refine Kd.C_alloc ?_ _) | (with_reducible refine Kd.C_drewN ?_ _) | (with_reducible refine Kd.C_drew ?_)))
                                  (case aB => exact (by repeat (first | (with_reducible first | exact HB.out | apply below_alloc | apply pw_below_drewN | apply below_drew1 | refine below_set ?_ GE126.out) | exact HB.out)))
                                  (case aF => exact (fun k_ hk => Kd.fresh' (Kd.R_lt (by (with_reducible repeat (first | apply Kd.R_alloc | apply Kd.R_drewN | apply Kd.R_drew)); exact HO146.out)) k_ hk))
                                  (case aO => exact (by (with_reducible repeat (first | apply Kd.R_alloc | apply Kd.R_drewN | apply Kd.R_drew)); exact HO_7.out))
                                  (case aS => exact (below_size (by repeat (first | (with_reducible first | exact HB.out | apply below_alloc | apply pw_below_drewN | apply below_drew1 | refine below_set ?_ GE126.out) | exact HB.out))))
                                  (case aL => have := LMc28.out; omega)
                                  intro v148 w43 ho hb hg hat
                                  rw [← Ny147.out] at ho
                                  have n0_ := Aside0.mk (Kd.R_over' (by (with_reducible repeat (first | apply Kd.R_alloc | apply Kd.R_drewN | apply Kd.R_drew)); exact HO_19.out) (Kd.R_typed (by (with_reducible repeat (first | apply Kd.R_alloc | apply Kd.R_drewN | apply Kd.R_drew)); exact HO_7.out)) (by decide) hg)
                                  have n1_ := Aside0.mk (blk_grown (g := gb126) (o := .cells #[.int .u64 (IntKind.u64.wrap (x127000_2 + 1)), .int .u64 (IntKind.u64.wrap (Int.tdiv x127001_2 2))] 70 (0, 0)) (by (with_reducible repeat (first | refine blk_drewN ?_ _ | refine blk_drew ?_ | refine blk_alloc ?_ _)); exact BK126.out) hg (Kd.R_ne HO_7.out BK126.out (by decide)))
                                  have n2_ := Aside0.mk (Kd.R_over' (by (with_reducible repeat (first | apply Kd.R_alloc | apply Kd.R_drewN | apply Kd.R_drew)); exact HO140.out) (Kd.R_typed (by (with_reducible repeat (first | apply Kd.R_alloc | apply Kd.R_drewN | apply Kd.R_drew)); exact HO_7.out)) (by decide) hg)
                                  have n3_ := Aside0.mk (Kd.R_over' (by (with_reducible repeat (first | apply Kd.R_alloc | apply Kd.R_drewN | apply Kd.R_drew)); exact HO143.out) (Kd.R_typed (by (with_reducible repeat (first | apply Kd.R_alloc | apply Kd.R_drewN | apply Kd.R_drew)); exact HO_7.out)) (by decide) hg)
                                  have n4_ := Aside0.mk (Kd.R_after (ok := (fun _ => True)) (by (with_reducible repeat (first | apply Kd.R_alloc | apply Kd.R_drewN | apply Kd.R_drew)); exact Kd.R_mono HO146.out (fun _ hk => ⟨trivial, hk⟩)) hg hat)
                                  have n5_ := Aside0.mk (hb)
                                  have n6_ := Aside0.mk (ho)
                                  clear HO_19
                                  clear BK126
                                  clear HO140
                                  clear HO143
                                  clear HO146
                                  clear HB
                                  clear HO_7
                                  have HO_19 := n0_
                                  have BK126 := n1_
                                  have HO140 := n2_
                                  have HO143 := n3_
                                  have HO146 := n4_
                                  have HB := n5_
                                  have HO149 := n6_
                                  clear n0_ n1_ n2_ n3_ n4_ n5_ n6_
                                  clear ho hb hg hat
                                  refine hK.out _ _ ⟨(blk_cell BK126.out 0).trans rfl, (blk_cell BK126.out 1).trans rfl⟩ (fun hHeld => ?_)
                                  clear hK K
                                  refine norm_ (a' := ?_) ?_ ?_
                                  rotate_left
                                  · show Act.put _ (some 74) _ = _
                                    simp only [Act.put, List.setIfInBounds_toArray, List.set_cons_zero, List.set_cons_succ, i64_w, i32_w]
                                    rfl
                                  refine pure_ (i := 12) (N := some 8) (v := ?_) (a' := ?_) #[true, true, true, true, true, true, true, true, true, true, true, true, true, false] rfl rfl (any_of HT_.out (by kernel_rfl)) (fun _ _ _ h => h) (Or.inl ⟨by rfl, ?_⟩) ?_ ?_
                                  rotate_left
                                  · intro w'
                                    go_simp
                                    with_reducible rfl
                                  rotate_left
                                  · simp only [Act.put, List.setIfInBounds_toArray, List.set_cons_zero, List.set_cons_succ, i64_w, i32_w]
                                    rfl
                                  refine pure_ (i := 13) (N := some 7) (v := ?_) (a' := ?_) #[true, true, true, true, true, true, true, true, true, true, true, true, true, true] rfl rfl (any_of HT_.out (by kernel_rfl)) (fun _ _ _ h => h) (Or.inl ⟨by rfl, ?_⟩) ?_ ?_
                                  rotate_left
                                  · intro w'
                                    go_simp
                                    with_reducible rfl
                                  rotate_left
                                  · simp only [Act.put, List.setIfInBounds_toArray, List.set_cons_zero, List.set_cons_succ, i64_w, i32_w]
                                    rfl
                                  refine done_ (done_of HT_.out (by kernel_rfl)) ?_
                                  obtain ⟨Ao45, co45, eo45⟩ := Kd.R_slice HO143.out
                                  subst eo45
                                  try go_wp2
                                  go_roundg k2
                                  case measure => have := HK1.out; have := HK2.out; omega
                                  case rel => exact ⟨(y147), (y141), ((y141.length : Int)), (IntKind.u64.wrap (x127000_2 + 1)), (IntKind.u64.wrap (Int.tdiv x127001_2 2)), (by first | rfl | (simp; done) | (simp [*]; done)), H', ⟨by have := HK1.out; have := HK2.out; omega⟩, ⟨by (with_reducible repeat (first | apply Kd.R_alloc | apply Kd.R_drewN | apply Kd.R_drew)); exact Kd.R_mono HO149.out (fun _ hk => trivial)⟩, ⟨by (with_reducible repeat (first | apply Kd.R_alloc | apply Kd.R_drewN | apply Kd.R_drew)); exact Kd.R_mono HO143.out (fun _ hk => ⟨hk.2.1, hk.2.2⟩)⟩, ⟨by (with_reducible repeat (first | apply Kd.R_alloc | apply Kd.R_drewN | apply Kd.R_drew)); exact Kd.R_mono HO_19.out (fun _ hk => ⟨hk.2.1, hk.2.2⟩)⟩, ⟨by (with_reducible repeat (first | refine blk_drewN ?_ _ | refine blk_drew ?_ | refine blk_alloc ?_ _)); exact BK126.out⟩, ⟨by repeat (first | (with_reducible first | exact HB.out | apply below_alloc | apply pw_below_drewN | apply below_drew1 | refine below_set ?_ GE126.out) | exact HB.out)⟩⟩
                                · rw [if_neg c28] at H
                                  exact absurd H (by simp)
                              · rw [if_neg c27] at H
                                exact absurd H (by simp)
                            · rw [if_neg c26] at H
                              exact absurd H (by simp)
                          · rw [if_neg c25] at H
                            have c25b0 : ((Int.tmod ((rd_T70 x8_2 (ji21)).f1) 2) == 0) = false := beq_eq_false_iff_ne.mpr c25
                            have c25b1 : ((Int.tmod ((rd_T70 x8_2 (ji21)).f1) 2) != 0) = true := bne_iff_ne.mpr c25
                            have H' := Aside0.mk H
                            clear H
                            try go_wp2
                            have n0_ := Aside0.mk (Kd.R_drew HO_7.out)
                            have n1_ := Aside0.mk (Kd.R_drew HO_8.out)
                            have n2_ := Aside0.mk (Kd.R_drew HO_19.out)
                            have n3_ := Aside0.mk (blk_drew BK126.out)
                            have n4_ := Aside0.mk (below_drew1 HB.out)
                            clear HO_7
                            clear HO_8
                            clear HO_19
                            clear BK126
                            clear HB
                            have HO_7 := n0_
                            have HO_8 := n1_
                            have HO_19 := n2_
                            have BK126 := n3_
                            have HB := n4_
                            clear n0_ n1_ n2_ n3_ n4_
                            obtain ⟨Ao47, co47, eo47⟩ := Kd.R_slice HO_8.out
                            (first | subst eo47 | (injection eo47 with f1_ f2_ f3_; have f4_ := f1_.symm; have f5_ := f3_.symm; clear f1_ f2_ f3_; subst f4_; subst f5_))
                            have p133 : 0 ≤ ((ji21) : Int) := of_decide_eq_true (by first | (with_reducible assumption) | assumption)
                            have q133 : (ji21) < (x8_2.length : Int) := of_decide_eq_true (by first | (with_reducible assumption) | assumption)
                            obtain ⟨ad133, e133, hx133_0, hx133_1⟩ := at_T70 (Kd.R_reads' HO_8.out).2.2 (ji21) p133 q133
                            cases e133
                            replace p133 := eq_true p133
                            replace q133 := eq_true q133
                            have p134 : 0 ≤ ((ji21) : Int) := of_decide_eq_true (by first | (with_reducible assumption) | assumption)
                            have q134 : (ji21) < (x8_2.length : Int) := of_decide_eq_true (by first | (with_reducible assumption) | assumption)
                            obtain ⟨ad134, e134, hx134_0, hx134_1⟩ := at_T70 (Kd.R_reads' HO_8.out).2.2 (ji21) p134 q134
                            obtain rfl : ad133 = ad134 := (by injection e134)
                            replace p134 := eq_true p134
                            replace q134 := eq_true q134
                            refine start_ (n := 23) (S := fun w' => w'.cell? ⟨gb126, 0, none⟩ = some (.int .u64 x127000_2) ∧ w'.cell? ⟨gb126, 1, none⟩ = some (.int .u64 x127001_2) ∧ w'.cell? (ad133.add (((ji21)).toNat * 2)) = some (.int .u64 ((rd_T70 x8_2 (ji21)).f0)) ∧ w'.cell? ⟨(ad133.add (((ji21)).toNat * 2)).block, (ad133.add (((ji21)).toNat * 2)).off + 1, none⟩ = some (.int .u64 ((rd_T70 x8_2 (ji21)).f1)) ∧ w'.cell? (ad133.add (((ji21)).toNat * 2)) = some (.int .u64 ((rd_T70 x8_2 (ji21)).f0)) ∧ w'.cell? ⟨(ad133.add (((ji21)).toNat * 2)).block, (ad133.add (((ji21)).toNat * 2)).off + 1, none⟩ = some (.int .u64 ((rd_T70 x8_2 (ji21)).f1))) (ds := []) #[false, false, false, false, false, false, false, false, false, false, false, false, false, false, false, false, false, false, false, false, false, false, false] (by kernel_rfl) rfl rfl ⟨(blk_cell BK126.out 0).trans rfl, (blk_cell BK126.out 1).trans rfl, hx133_0, hx133_1, hx134_0, hx134_1⟩ (fun hHeld => ?_); refine with_tabW spec_MergedLevels.tab8 spec_MergedLevels.bits8 (fun HT_ HW_ => ?_)
                            (first | (have t_ := HO_7; clear t_) | have HO_7 : True := trivial)
                            (first | (have t_ := HO_8; clear t_) | have HO_8 : True := trivial)
                            (first | (have t_ := HO_19; clear t_) | have HO_19 : True := trivial)
                            generalize wr.drew = w46 at HO_7 HO_8 HO_19 BK126 HB hx133_0 hx133_1 hx134_0 hx134_1 hHeld ⊢
                            refine pure_ (i := 0) (N := some 31) (v := ?_) (a' := ?_) #[true, false, false, false, false, false, false, false, false, false, false, false, false, false, false, false, false, false, false, false, false, false, false] rfl rfl (any_of HT_.out (by kernel_rfl)) (fun _ _ _ h => h) (Or.inl ⟨by rfl, ?_⟩) ?_ ?_
                            rotate_left
                            · intro w'
                              go_simp
                              with_reducible rfl
                            rotate_left
                            · simp only [Act.put, List.setIfInBounds_toArray, List.set_cons_zero, List.set_cons_succ, i64_w, i32_w]
                              rfl
                            refine pure_ (i := 1) (N := some 32) (v := ?_) (a' := ?_) #[true, true, false, false, false, false, false, false, false, false, false, false, false, false, false, false, false, false, false, false, false, false, false] rfl rfl (any_of HT_.out (by kernel_rfl)) (fun _ _ _ h => h) (Or.inl ⟨by rfl, ?_⟩) ?_ ?_
                            rotate_left
                            · intro w'
                              go_simp
                              with_reducible rfl
                            rotate_left
                            · simp only [Act.put, List.setIfInBounds_toArray, List.set_cons_zero, List.set_cons_succ, i64_w, i32_w]
                              rfl
                            refine pure_ (i := 2) (N := some 33) (v := ?_) (a' := ?_) #[true, true, true, false, false, false, false, false, false, false, false, false, false, false, false, false, false, false, false, false, false, false, false] rfl rfl (any_of HT_.out (by kernel_rfl)) (fun _ _ _ h => h) (Or.inl ⟨by rfl, ?_⟩) ?_ ?_
                            rotate_left
                            · intro w'
                              go_simp
                              with_reducible rfl
                            rotate_left
                            · simp only [Act.put, List.setIfInBounds_toArray, List.set_cons_zero, List.set_cons_succ, i64_w, i32_w]
                              rfl
                            refine pure_ (i := 3) (N := some 34) (v := ?_) (a' := ?_) #[true, true, true, true, false, false, false, false, false, false, false, false, false, false, false, false, false, false, false, false, false, false, false] rfl rfl (any_of HT_.out (by kernel_rfl)) (fun _ _ _ h => h) (Or.inl ⟨by rfl, ?_⟩) ?_ ?_
                            rotate_left
                            · intro w'
                              go_simp
                              with_reducible rfl
                            rotate_left
                            · simp only [Act.put, List.setIfInBounds_toArray, List.set_cons_zero, List.set_cons_succ, i64_w, i32_w]
                              rfl
                            refine pure_ (i := 4) (N := some 35) (v := ?_) (a' := ?_) #[true, true, true, true, true, false, false, false, false, false, false, false, false, false, false, false, false, false, false, false, false, false, false] rfl rfl (any_of HT_.out (by kernel_rfl)) (fun _ _ _ h => h) (Or.inl ⟨by rfl, ?_⟩) ?_ ?_
                            rotate_left
                            · intro w'
                              go_simp
                              with_reducible rfl
                            rotate_left
                            · simp only [Act.put, List.setIfInBounds_toArray, List.set_cons_zero, List.set_cons_succ, i64_w, i32_w]
                              rfl
                            refine pure_ (i := 5) (N := some 36) (v := ?_) (a' := ?_) #[true, true, true, true, true, true, false, false, false, false, false, false, false, false, false, false, false, false, false, false, false, false, false] rfl rfl (any_of HT_.out (by kernel_rfl)) (fun _ _ _ h => h) (Or.inl ⟨by rfl, ?_⟩) ?_ ?_
                            rotate_left
                            · intro w'
                              go_simp
                              with_reducible rfl
                            rotate_left
                            · simp only [Act.put, List.setIfInBounds_toArray, List.set_cons_zero, List.set_cons_succ, i64_w, i32_w]
                              rfl
                            refine pure_ (i := 6) (N := some 37) (v := ?_) (a' := ?_) #[true, true, true, true, true, true, true, false, false, false, false, false, false, false, false, false, false, false, false, false, false, false, false] rfl rfl (any_of HT_.out (by kernel_rfl)) (fun _ _ _ h => h) (Or.inl ⟨by rfl, ?_⟩) ?_ ?_
                            rotate_left
                            · intro w'
                              go_simp
                              with_reducible rfl
                            rotate_left
                            · simp only [Act.put, List.setIfInBounds_toArray, List.set_cons_zero, List.set_cons_succ, i64_w, i32_w]
                              rfl
                            refine pure_ (i := 7) (N := some 38) (v := ?_) (a' := ?_) #[true, true, true, true, true, true, true, true, false, false, false, false, false, false, false, false, false, false, false, false, false, false, false] rfl rfl (any_of HT_.out (by kernel_rfl)) (fun _ _ _ h => h) (Or.inl ⟨by rfl, ?_⟩) ?_ ?_
                            rotate_left
                            · intro w'
                              go_simp
                              with_reducible rfl
                            rotate_left
                            · simp only [Act.put, List.setIfInBounds_toArray, List.set_cons_zero, List.set_cons_succ, i64_w, i32_w]
                              rfl
                            refine pure_ (i := 9) (N := some 40) (v := ?_) (a' := ?_) #[true, true, true, true, true, true, true, true, false, true, false, false, false, false, false, false, false, false, false, false, false, false, false] rfl rfl (any_of HT_.out (by kernel_rfl)) (fun _ _ _ h => h) (Or.inl ⟨by rfl, ?_⟩) ?_ ?_
                            rotate_left
                            · intro w'
                              go_simp
                              with_reducible rfl
                            rotate_left
                            · simp only [Act.put, List.setIfInBounds_toArray, List.set_cons_zero, List.set_cons_succ, i64_w, i32_w]
                              rfl
                            refine take_ (i := 8) (N := some 39) (v := ?_) (a' := ?_) #[true, true, true, true, true, true, true, true, true, true, false, false, false, false, false, false, false, false, false, false, false, false, false] rfl rfl (take_ofW HT_.out HW_.out (by kernel_rfl)) (fun _ _ _ h => h) (Or.inl ⟨by rfl, ?_⟩) hHeld ?_ ?_
                            rotate_left
                            · rintro w' ⟨s0, s1, s2, s3, s4, s5⟩
                              go_simp
                              with_reducible rfl
                            rotate_left
                            · simp only [Act.put, List.setIfInBounds_toArray, List.set_cons_zero, List.set_cons_succ, i64_w, i32_w]
                              rfl
                            refine take_ (i := 10) (N := some 41) (v := ?_) (a' := ?_) #[true, true, true, true, true, true, true, true, true, true, true, false, false, false, false, false, false, false, false, false, false, false, false] rfl rfl (take_ofW HT_.out HW_.out (by kernel_rfl)) (fun _ _ _ h => h) (Or.inl ⟨by rfl, ?_⟩) hHeld ?_ ?_
                            rotate_left
                            · rintro w' ⟨s0, s1, s2, s3, s4, s5⟩
                              go_simp
                              with_reducible rfl
                            rotate_left
                            · simp only [Act.put, List.setIfInBounds_toArray, List.set_cons_zero, List.set_cons_succ, i64_w, i32_w]
                              rfl
                            refine pure_ (i := 11) (N := some 42) (v := ?_) (a' := ?_) #[true, true, true, true, true, true, true, true, true, true, true, true, false, false, false, false, false, false, false, false, false, false, false] rfl rfl (any_of HT_.out (by kernel_rfl)) (fun _ _ _ h => h) (Or.inl ⟨by rfl, ?_⟩) ?_ ?_
                            rotate_left
                            · intro w'
                              go_simp
                              with_reducible rfl
                            rotate_left
                            · simp only [Act.put, List.setIfInBounds_toArray, List.set_cons_zero, List.set_cons_succ, i64_w, i32_w]
                              rfl
                            refine pure_ (i := 12) (N := some 43) (v := ?_) (a' := ?_) #[true, true, true, true, true, true, true, true, true, true, true, true, true, false, false, false, false, false, false, false, false, false, false] rfl rfl (any_of HT_.out (by kernel_rfl)) (fun _ _ _ h => h) (Or.inl ⟨by rfl, ?_⟩) ?_ ?_
                            rotate_left
                            · intro w'
                              go_simp
                              with_reducible rfl
                            rotate_left
                            · simp only [Act.put, List.setIfInBounds_toArray, List.set_cons_zero, List.set_cons_succ, i64_w, i32_w]
                              rfl
                            refine pure_ (i := 13) (N := some 44) (v := ?_) (a' := ?_) #[true, true, true, true, true, true, true, true, true, true, true, true, true, true, false, false, false, false, false, false, false, false, false] rfl rfl (any_of HT_.out (by kernel_rfl)) (fun _ _ _ h => h) (Or.inl ⟨by rfl, ?_⟩) ?_ ?_
                            rotate_left
                            · intro w'
                              go_simp
                              with_reducible rfl
                            rotate_left
                            · simp only [Act.put, List.setIfInBounds_toArray, List.set_cons_zero, List.set_cons_succ, i64_w, i32_w]
                              rfl
                            refine pure_ (i := 14) (N := some 45) (v := ?_) (a' := ?_) #[true, true, true, true, true, true, true, true, true, true, true, true, true, true, true, false, false, false, false, false, false, false, false] rfl rfl (any_of HT_.out (by kernel_rfl)) (fun _ _ _ h => h) (Or.inl ⟨by rfl, ?_⟩) ?_ ?_
                            rotate_left
                            · intro w'
                              go_simp
                              with_reducible rfl
                            rotate_left
                            · simp only [Act.put, List.setIfInBounds_toArray, List.set_cons_zero, List.set_cons_succ, i64_w, i32_w]
                              rfl
                            refine pure_ (i := 15) (N := some 46) (v := ?_) (a' := ?_) #[true, true, true, true, true, true, true, true, true, true, true, true, true, true, true, true, false, false, false, false, false, false, false] rfl rfl (any_of HT_.out (by kernel_rfl)) (fun _ _ _ h => h) (Or.inl ⟨by rfl, ?_⟩) ?_ ?_
                            rotate_left
                            · intro w'
                              go_simp
                              with_reducible rfl
                            rotate_left
                            · simp only [Act.put, List.setIfInBounds_toArray, List.set_cons_zero, List.set_cons_succ, i64_w, i32_w]
                              rfl
                            refine pure_ (i := 16) (N := some 47) (v := ?_) (a' := ?_) #[true, true, true, true, true, true, true, true, true, true, true, true, true, true, true, true, true, false, false, false, false, false, false] rfl rfl (any_of HT_.out (by kernel_rfl)) (fun _ _ _ h => h) (Or.inl ⟨by rfl, ?_⟩) ?_ ?_
                            rotate_left
                            · intro w'
                              go_simp
                              with_reducible rfl
                            rotate_left
                            · simp only [Act.put, List.setIfInBounds_toArray, List.set_cons_zero, List.set_cons_succ, i64_w, i32_w]
                              rfl
                            refine pure_ (i := 17) (N := some 48) (v := ?_) (a' := ?_) #[true, true, true, true, true, true, true, true, true, true, true, true, true, true, true, true, true, true, false, false, false, false, false] rfl rfl (any_of HT_.out (by kernel_rfl)) (fun _ _ _ h => h) (Or.inl ⟨by rfl, ?_⟩) ?_ ?_
                            rotate_left
                            · intro w'
                              go_simp
                              with_reducible rfl
                            rotate_left
                            · simp only [Act.put, List.setIfInBounds_toArray, List.set_cons_zero, List.set_cons_succ, i64_w, i32_w]
                              rfl
                            refine pure_ (i := 18) (N := some 49) (v := ?_) (a' := ?_) #[true, true, true, true, true, true, true, true, true, true, true, true, true, true, true, true, true, true, true, false, false, false, false] rfl rfl (any_of HT_.out (by kernel_rfl)) (fun _ _ _ h => h) (Or.inl ⟨by rfl, ?_⟩) ?_ ?_
                            rotate_left
                            · intro w'
                              go_simp
                              with_reducible rfl
                            rotate_left
                            · simp only [Act.put, List.setIfInBounds_toArray, List.set_cons_zero, List.set_cons_succ, i64_w, i32_w]
                              rfl
                            refine take_ (i := 19) (N := some 50) (v := ?_) (a' := ?_) #[true, true, true, true, true, true, true, true, true, true, true, true, true, true, true, true, true, true, true, true, false, false, false] rfl rfl (take_ofW HT_.out HW_.out (by kernel_rfl)) (fun _ _ _ h => h) (Or.inl ⟨by rfl, ?_⟩) hHeld ?_ ?_
                            rotate_left
                            · rintro w' ⟨s0, s1, s2, s3, s4, s5⟩
                              go_simp
                              with_reducible rfl
                            rotate_left
                            · simp only [Act.put, List.setIfInBounds_toArray, List.set_cons_zero, List.set_cons_succ, i64_w, i32_w]
                              rfl
                            refine pure_ (i := 20) (N := some 51) (v := ?_) (a' := ?_) #[true, true, true, true, true, true, true, true, true, true, true, true, true, true, true, true, true, true, true, true, true, false, false] rfl rfl (any_of HT_.out (by kernel_rfl)) (fun _ _ _ h => h) (Or.inl ⟨by rfl, ?_⟩) ?_ ?_
                            rotate_left
                            · intro w'
                              go_simp
                              with_reducible rfl
                            rotate_left
                            · simp only [Act.put, List.setIfInBounds_toArray, List.set_cons_zero, List.set_cons_succ, i64_w, i32_w]
                              rfl
                            refine pure_ (i := 21) (N := some 52) (v := ?_) (a' := ?_) #[true, true, true, true, true, true, true, true, true, true, true, true, true, true, true, true, true, true, true, true, true, true, false] rfl rfl (any_of HT_.out (by kernel_rfl)) (fun _ _ _ h => h) (Or.inl ⟨by rfl, ?_⟩) ?_ ?_
                            rotate_left
                            · intro w'
                              go_simp
                              with_reducible rfl
                            rotate_left
                            · simp only [Act.put, List.setIfInBounds_toArray, List.set_cons_zero, List.set_cons_succ, i64_w, i32_w]
                              rfl
                            refine pure_ (i := 22) (N := some 53) (v := ?_) (a' := ?_) #[true, true, true, true, true, true, true, true, true, true, true, true, true, true, true, true, true, true, true, true, true, true, true] rfl rfl (any_of HT_.out (by kernel_rfl)) (fun _ _ _ h => h) (Or.inl ⟨by rfl, ?_⟩) ?_ ?_
                            rotate_left
                            · intro w'
                              go_simp
                              with_reducible rfl
                            rotate_left
                            · simp only [Act.put, List.setIfInBounds_toArray, List.set_cons_zero, List.set_cons_succ, i64_w, i32_w]
                              rfl
                            refine done_ (done_of HT_.out (by kernel_rfl)) ?_
                            try go_wp2
                            go_roundg k2
                            case measure => have := HK1.out; have := HK2.out; omega
                            case rel => exact ⟨(x7_2), (x8_2), (wrap64 (x21_1 + 1)), (by first | rfl | (simp; done) | (simp [*]; done)), H', ⟨by have := HK1.out; have := HK2.out; omega⟩, ⟨by (with_reducible repeat (first | apply Kd.R_alloc | apply Kd.R_drewN | apply Kd.R_drew)); exact HO_7.out⟩, ⟨by (with_reducible repeat (first | apply Kd.R_alloc | apply Kd.R_drewN | apply Kd.R_drew)); exact Kd.R_mono HO_8.out (fun _ hk => hk.1)⟩, ⟨by (with_reducible repeat (first | apply Kd.R_alloc | apply Kd.R_drewN | apply Kd.R_drew)); exact Kd.R_mono HO_19.out (fun _ hk => hk.1)⟩, ⟨by repeat (first | (with_reducible first | exact HB.out | apply below_alloc | apply pw_below_drewN | apply below_drew1 | refine below_set ?_ GE126.out) | exact HB.out)⟩⟩
                        · rw [if_neg c24] at H
                          have c24b0 : (((rd_T70 x8_2 (ji21)).f0) == x127000_2) = false := beq_eq_false_iff_ne.mpr c24
                          have c24b1 : (((rd_T70 x8_2 (ji21)).f0) != x127000_2) = true := bne_iff_ne.mpr c24
                          have H' := Aside0.mk H
                          clear H
                          try go_wp2
                          have n0_ := Aside0.mk (Kd.R_drew HO_7.out)
                          have n1_ := Aside0.mk (Kd.R_drew HO_8.out)
                          have n2_ := Aside0.mk (Kd.R_drew HO_19.out)
                          have n3_ := Aside0.mk (blk_drew BK126.out)
                          have n4_ := Aside0.mk (below_drew1 HB.out)
                          clear HO_7
                          clear HO_8
                          clear HO_19
                          clear BK126
                          clear HB
                          have HO_7 := n0_
                          have HO_8 := n1_
                          have HO_19 := n2_
                          have BK126 := n3_
                          have HB := n4_
                          clear n0_ n1_ n2_ n3_ n4_
                          obtain ⟨Ao49, co49, eo49⟩ := Kd.R_slice HO_8.out
                          (first | subst eo49 | (injection eo49 with f1_ f2_ f3_; have f4_ := f1_.symm; have f5_ := f3_.symm; clear f1_ f2_ f3_; subst f4_; subst f5_))
                          have p133 : 0 ≤ ((ji21) : Int) := of_decide_eq_true (by first | (with_reducible assumption) | assumption)
                          have q133 : (ji21) < (x8_2.length : Int) := of_decide_eq_true (by first | (with_reducible assumption) | assumption)
                          obtain ⟨ad133, e133, hx133_0, hx133_1⟩ := at_T70 (Kd.R_reads' HO_8.out).2.2 (ji21) p133 q133
                          cases e133
                          replace p133 := eq_true p133
                          replace q133 := eq_true q133
                          refine start_ (n := 23) (S := fun w' => w'.cell? ⟨gb126, 0, none⟩ = some (.int .u64 x127000_2) ∧ w'.cell? ⟨gb126, 1, none⟩ = some (.int .u64 x127001_2) ∧ w'.cell? (ad133.add (((ji21)).toNat * 2)) = some (.int .u64 ((rd_T70 x8_2 (ji21)).f0)) ∧ w'.cell? ⟨(ad133.add (((ji21)).toNat * 2)).block, (ad133.add (((ji21)).toNat * 2)).off + 1, none⟩ = some (.int .u64 ((rd_T70 x8_2 (ji21)).f1))) (ds := []) #[false, false, false, false, false, false, false, false, false, false, false, false, false, false, false, false, false, false, false, false, false, false, false] (by kernel_rfl) rfl rfl ⟨(blk_cell BK126.out 0).trans rfl, (blk_cell BK126.out 1).trans rfl, hx133_0, hx133_1⟩ (fun hHeld => ?_); refine with_tabW spec_MergedLevels.tab8 spec_MergedLevels.bits8 (fun HT_ HW_ => ?_)
                          (first | (have t_ := HO_7; clear t_) | have HO_7 : True := trivial)
                          (first | (have t_ := HO_8; clear t_) | have HO_8 : True := trivial)
                          (first | (have t_ := HO_19; clear t_) | have HO_19 : True := trivial)
                          generalize wr.drew = w48 at HO_7 HO_8 HO_19 BK126 HB hx133_0 hx133_1 hHeld ⊢
                          refine pure_ (i := 0) (N := some 31) (v := ?_) (a' := ?_) #[true, false, false, false, false, false, false, false, false, false, false, false, false, false, false, false, false, false, false, false, false, false, false] rfl rfl (any_of HT_.out (by kernel_rfl)) (fun _ _ _ h => h) (Or.inl ⟨by rfl, ?_⟩) ?_ ?_
                          rotate_left
                          · intro w'
                            go_simp
                            with_reducible rfl
                          rotate_left
                          · simp only [Act.put, List.setIfInBounds_toArray, List.set_cons_zero, List.set_cons_succ, i64_w, i32_w]
                            rfl
                          refine pure_ (i := 1) (N := some 32) (v := ?_) (a' := ?_) #[true, true, false, false, false, false, false, false, false, false, false, false, false, false, false, false, false, false, false, false, false, false, false] rfl rfl (any_of HT_.out (by kernel_rfl)) (fun _ _ _ h => h) (Or.inl ⟨by rfl, ?_⟩) ?_ ?_
                          rotate_left
                          · intro w'
                            go_simp
                            with_reducible rfl
                          rotate_left
                          · simp only [Act.put, List.setIfInBounds_toArray, List.set_cons_zero, List.set_cons_succ, i64_w, i32_w]
                            rfl
                          refine pure_ (i := 2) (N := some 33) (v := ?_) (a' := ?_) #[true, true, true, false, false, false, false, false, false, false, false, false, false, false, false, false, false, false, false, false, false, false, false] rfl rfl (any_of HT_.out (by kernel_rfl)) (fun _ _ _ h => h) (Or.inl ⟨by rfl, ?_⟩) ?_ ?_
                          rotate_left
                          · intro w'
                            go_simp
                            with_reducible rfl
                          rotate_left
                          · simp only [Act.put, List.setIfInBounds_toArray, List.set_cons_zero, List.set_cons_succ, i64_w, i32_w]
                            rfl
                          refine pure_ (i := 3) (N := some 34) (v := ?_) (a' := ?_) #[true, true, true, true, false, false, false, false, false, false, false, false, false, false, false, false, false, false, false, false, false, false, false] rfl rfl (any_of HT_.out (by kernel_rfl)) (fun _ _ _ h => h) (Or.inl ⟨by rfl, ?_⟩) ?_ ?_
                          rotate_left
                          · intro w'
                            go_simp
                            with_reducible rfl
                          rotate_left
                          · simp only [Act.put, List.setIfInBounds_toArray, List.set_cons_zero, List.set_cons_succ, i64_w, i32_w]
                            rfl
                          refine pure_ (i := 4) (N := some 35) (v := ?_) (a' := ?_) #[true, true, true, true, true, false, false, false, false, false, false, false, false, false, false, false, false, false, false, false, false, false, false] rfl rfl (any_of HT_.out (by kernel_rfl)) (fun _ _ _ h => h) (Or.inl ⟨by rfl, ?_⟩) ?_ ?_
                          rotate_left
                          · intro w'
                            go_simp
                            with_reducible rfl
                          rotate_left
                          · simp only [Act.put, List.setIfInBounds_toArray, List.set_cons_zero, List.set_cons_succ, i64_w, i32_w]
                            rfl
                          refine pure_ (i := 5) (N := some 36) (v := ?_) (a' := ?_) #[true, true, true, true, true, true, false, false, false, false, false, false, false, false, false, false, false, false, false, false, false, false, false] rfl rfl (any_of HT_.out (by kernel_rfl)) (fun _ _ _ h => h) (Or.inl ⟨by rfl, ?_⟩) ?_ ?_
                          rotate_left
                          · intro w'
                            go_simp
                            with_reducible rfl
                          rotate_left
                          · simp only [Act.put, List.setIfInBounds_toArray, List.set_cons_zero, List.set_cons_succ, i64_w, i32_w]
                            rfl
                          refine pure_ (i := 6) (N := some 37) (v := ?_) (a' := ?_) #[true, true, true, true, true, true, true, false, false, false, false, false, false, false, false, false, false, false, false, false, false, false, false] rfl rfl (any_of HT_.out (by kernel_rfl)) (fun _ _ _ h => h) (Or.inl ⟨by rfl, ?_⟩) ?_ ?_
                          rotate_left
                          · intro w'
                            go_simp
                            with_reducible rfl
                          rotate_left
                          · simp only [Act.put, List.setIfInBounds_toArray, List.set_cons_zero, List.set_cons_succ, i64_w, i32_w]
                            rfl
                          refine pure_ (i := 7) (N := some 38) (v := ?_) (a' := ?_) #[true, true, true, true, true, true, true, true, false, false, false, false, false, false, false, false, false, false, false, false, false, false, false] rfl rfl (any_of HT_.out (by kernel_rfl)) (fun _ _ _ h => h) (Or.inl ⟨by rfl, ?_⟩) ?_ ?_
                          rotate_left
                          · intro w'
                            go_simp
                            with_reducible rfl
                          rotate_left
                          · simp only [Act.put, List.setIfInBounds_toArray, List.set_cons_zero, List.set_cons_succ, i64_w, i32_w]
                            rfl
                          refine pure_ (i := 9) (N := some 40) (v := ?_) (a' := ?_) #[true, true, true, true, true, true, true, true, false, true, false, false, false, false, false, false, false, false, false, false, false, false, false] rfl rfl (any_of HT_.out (by kernel_rfl)) (fun _ _ _ h => h) (Or.inl ⟨by rfl, ?_⟩) ?_ ?_
                          rotate_left
                          · intro w'
                            go_simp
                            with_reducible rfl
                          rotate_left
                          · simp only [Act.put, List.setIfInBounds_toArray, List.set_cons_zero, List.set_cons_succ, i64_w, i32_w]
                            rfl
                          refine take_ (i := 8) (N := some 39) (v := ?_) (a' := ?_) #[true, true, true, true, true, true, true, true, true, true, false, false, false, false, false, false, false, false, false, false, false, false, false] rfl rfl (take_ofW HT_.out HW_.out (by kernel_rfl)) (fun _ _ _ h => h) (Or.inl ⟨by rfl, ?_⟩) hHeld ?_ ?_
                          rotate_left
                          · rintro w' ⟨s0, s1, s2, s3⟩
                            go_simp
                            with_reducible rfl
                          rotate_left
                          · simp only [Act.put, List.setIfInBounds_toArray, List.set_cons_zero, List.set_cons_succ, i64_w, i32_w]
                            rfl
                          refine take_ (i := 10) (N := some 41) (v := ?_) (a' := ?_) #[true, true, true, true, true, true, true, true, true, true, true, false, false, false, false, false, false, false, false, false, false, false, false] rfl rfl (take_ofW HT_.out HW_.out (by kernel_rfl)) (fun _ _ _ h => h) (Or.inl ⟨by rfl, ?_⟩) hHeld ?_ ?_
                          rotate_left
                          · rintro w' ⟨s0, s1, s2, s3⟩
                            go_simp
                            with_reducible rfl
                          rotate_left
                          · simp only [Act.put, List.setIfInBounds_toArray, List.set_cons_zero, List.set_cons_succ, i64_w, i32_w]
                            rfl
                          refine pure_ (i := 11) (N := some 42) (v := ?_) (a' := ?_) #[true, true, true, true, true, true, true, true, true, true, true, true, false, false, false, false, false, false, false, false, false, false, false] rfl rfl (any_of HT_.out (by kernel_rfl)) (fun _ _ _ h => h) (Or.inl ⟨by rfl, ?_⟩) ?_ ?_
                          rotate_left
                          · intro w'
                            go_simp
                            with_reducible rfl
                          rotate_left
                          · simp only [Act.put, List.setIfInBounds_toArray, List.set_cons_zero, List.set_cons_succ, i64_w, i32_w]
                            rfl
                          refine pure_ (i := 12) (N := some 43) (v := ?_) (a' := ?_) #[true, true, true, true, true, true, true, true, true, true, true, true, true, false, false, false, false, false, false, false, false, false, false] rfl rfl (any_of HT_.out (by kernel_rfl)) (fun _ _ _ h => h) (Or.inl ⟨by rfl, ?_⟩) ?_ ?_
                          rotate_left
                          · intro w'
                            go_simp
                            with_reducible rfl
                          rotate_left
                          · simp only [Act.put, List.setIfInBounds_toArray, List.set_cons_zero, List.set_cons_succ, i64_w, i32_w]
                            rfl
                          refine pure_ (i := 13) (N := some 44) (v := ?_) (a' := ?_) #[true, true, true, true, true, true, true, true, true, true, true, true, true, true, false, false, false, false, false, false, false, false, false] rfl rfl (any_of HT_.out (by kernel_rfl)) (fun _ _ _ h => h) (Or.inl ⟨by rfl, ?_⟩) ?_ ?_
                          rotate_left
                          · intro w'
                            go_simp
                            with_reducible rfl
                          rotate_left
                          · simp only [Act.put, List.setIfInBounds_toArray, List.set_cons_zero, List.set_cons_succ, i64_w, i32_w]
                            rfl
                          refine pure_ (i := 14) (N := some 45) (v := undef) (a' := ?_) #[true, true, true, true, true, true, true, true, true, true, true, true, true, true, true, false, false, false, false, false, false, false, false] rfl rfl (any_of HT_.out (by kernel_rfl)) (fun _ _ _ h => h) (Or.inr ⟨by rfl, rfl⟩) ?_ ?_
                          rotate_left
                          · simp only [Act.put, List.setIfInBounds_toArray, List.set_cons_zero, List.set_cons_succ, i64_w, i32_w]
                            rfl
                          refine pure_ (i := 15) (N := some 46) (v := undef) (a' := ?_) #[true, true, true, true, true, true, true, true, true, true, true, true, true, true, true, true, false, false, false, false, false, false, false] rfl rfl (any_of HT_.out (by kernel_rfl)) (fun _ _ _ h => h) (Or.inr ⟨by rfl, rfl⟩) ?_ ?_
                          rotate_left
                          · simp only [Act.put, List.setIfInBounds_toArray, List.set_cons_zero, List.set_cons_succ, i64_w, i32_w]
                            rfl
                          refine pure_ (i := 16) (N := some 47) (v := undef) (a' := ?_) #[true, true, true, true, true, true, true, true, true, true, true, true, true, true, true, true, true, false, false, false, false, false, false] rfl rfl (any_of HT_.out (by kernel_rfl)) (fun _ _ _ h => h) (Or.inr ⟨by rfl, rfl⟩) ?_ ?_
                          rotate_left
                          · simp only [Act.put, List.setIfInBounds_toArray, List.set_cons_zero, List.set_cons_succ, i64_w, i32_w]
                            rfl
                          refine pure_ (i := 17) (N := some 48) (v := undef) (a' := ?_) #[true, true, true, true, true, true, true, true, true, true, true, true, true, true, true, true, true, true, false, false, false, false, false] rfl rfl (any_of HT_.out (by kernel_rfl)) (fun _ _ _ h => h) (Or.inr ⟨by rfl, rfl⟩) ?_ ?_
                          rotate_left
                          · simp only [Act.put, List.setIfInBounds_toArray, List.set_cons_zero, List.set_cons_succ, i64_w, i32_w]
                            rfl
                          refine pure_ (i := 18) (N := some 49) (v := undef) (a' := ?_) #[true, true, true, true, true, true, true, true, true, true, true, true, true, true, true, true, true, true, true, false, false, false, false] rfl rfl (any_of HT_.out (by kernel_rfl)) (fun _ _ _ h => h) (Or.inr ⟨by rfl, rfl⟩) ?_ ?_
                          rotate_left
                          · simp only [Act.put, List.setIfInBounds_toArray, List.set_cons_zero, List.set_cons_succ, i64_w, i32_w]
                            rfl
                          refine pure_ (i := 19) (N := some 50) (v := undef) (a' := ?_) #[true, true, true, true, true, true, true, true, true, true, true, true, true, true, true, true, true, true, true, true, false, false, false] rfl rfl (any_of HT_.out (by kernel_rfl)) (fun _ _ _ h => h) (Or.inr ⟨by rfl, rfl⟩) ?_ ?_
                          rotate_left
                          · simp only [Act.put, List.setIfInBounds_toArray, List.set_cons_zero, List.set_cons_succ, i64_w, i32_w]
                            rfl
                          refine pure_ (i := 20) (N := some 51) (v := undef) (a' := ?_) #[true, true, true, true, true, true, true, true, true, true, true, true, true, true, true, true, true, true, true, true, true, false, false] rfl rfl (any_of HT_.out (by kernel_rfl)) (fun _ _ _ h => h) (Or.inr ⟨by rfl, rfl⟩) ?_ ?_
                          rotate_left
                          · simp only [Act.put, List.setIfInBounds_toArray, List.set_cons_zero, List.set_cons_succ, i64_w, i32_w]
                            rfl
                          refine pure_ (i := 21) (N := some 52) (v := undef) (a' := ?_) #[true, true, true, true, true, true, true, true, true, true, true, true, true, true, true, true, true, true, true, true, true, true, false] rfl rfl (any_of HT_.out (by kernel_rfl)) (fun _ _ _ h => h) (Or.inr ⟨by rfl, rfl⟩) ?_ ?_
                          rotate_left
                          · simp only [Act.put, List.setIfInBounds_toArray, List.set_cons_zero, List.set_cons_succ, i64_w, i32_w]
                            rfl
                          refine pure_ (i := 22) (N := some 53) (v := ?_) (a' := ?_) #[true, true, true, true, true, true, true, true, true, true, true, true, true, true, true, true, true, true, true, true, true, true, true] rfl rfl (any_of HT_.out (by kernel_rfl)) (fun _ _ _ h => h) (Or.inl ⟨by rfl, ?_⟩) ?_ ?_
                          rotate_left
                          · intro w'
                            go_simp
                            with_reducible rfl
                          rotate_left
                          · simp only [Act.put, List.setIfInBounds_toArray, List.set_cons_zero, List.set_cons_succ, i64_w, i32_w]
                            rfl
                          refine done_ (done_of HT_.out (by kernel_rfl)) ?_
                          try go_wp2
                          go_roundg k2
                          case measure => have := HK1.out; have := HK2.out; omega
                          case rel => exact ⟨(x7_2), (x8_2), (wrap64 (x21_1 + 1)), (by first | rfl | (simp; done) | (simp [*]; done)), H', ⟨by have := HK1.out; have := HK2.out; omega⟩, ⟨by (with_reducible repeat (first | apply Kd.R_alloc | apply Kd.R_drewN | apply Kd.R_drew)); exact HO_7.out⟩, ⟨by (with_reducible repeat (first | apply Kd.R_alloc | apply Kd.R_drewN | apply Kd.R_drew)); exact Kd.R_mono HO_8.out (fun _ hk => hk.1)⟩, ⟨by (with_reducible repeat (first | apply Kd.R_alloc | apply Kd.R_drewN | apply Kd.R_drew)); exact Kd.R_mono HO_19.out (fun _ hk => hk.1)⟩, ⟨by repeat (first | (with_reducible first | exact HB.out | apply below_alloc | apply pw_below_drewN | apply below_drew1 | refine below_set ?_ GE126.out) | exact HB.out)⟩⟩
                      · rw [if_neg c23] at H
                        exact absurd H (by simp)
                    · rw [if_neg c22] at H
                      exact absurd H (by simp)
                  · rw [if_neg c20] at H
                    have c20b0 : decide (1 < x11_2) = false := decide_eq_false c20
                    clear c20
                    have H' := Aside0.mk H
                    clear H
                    try go_wp2
                    have n0_ := Aside0.mk (Kd.R_drew HO_7.out)
                    have n1_ := Aside0.mk (Kd.R_drew HO_8.out)
                    have n2_ := Aside0.mk (Kd.R_drew HO_19.out)
                    have n3_ := Aside0.mk (blk_drew BK126.out)
                    have n4_ := Aside0.mk (below_drew1 HB.out)
                    clear HO_7
                    clear HO_8
                    clear HO_19
                    clear BK126
                    clear HB
                    have HO_7 := n0_
                    have HO_8 := n1_
                    have HO_19 := n2_
                    have BK126 := n3_
                    have HB := n4_
                    clear n0_ n1_ n2_ n3_ n4_
                    refine start_ (n := 23) (S := fun w' => True) (ds := []) #[false, false, false, false, false, false, false, false, false, false, false, false, false, false, false, false, false, false, false, false, false, false, false] (by kernel_rfl) rfl rfl trivial (fun hHeld => ?_); refine with_tabW spec_MergedLevels.tab8 spec_MergedLevels.bits8 (fun HT_ HW_ => ?_)
                    (first | (have t_ := HO_7; clear t_) | have HO_7 : True := trivial)
                    (first | (have t_ := HO_8; clear t_) | have HO_8 : True := trivial)
                    (first | (have t_ := HO_19; clear t_) | have HO_19 : True := trivial)
                    generalize wr.drew = w50 at HO_7 HO_8 HO_19 BK126 HB hHeld ⊢
                    refine pure_ (i := 0) (N := some 31) (v := ?_) (a' := ?_) #[true, false, false, false, false, false, false, false, false, false, false, false, false, false, false, false, false, false, false, false, false, false, false] rfl rfl (any_of HT_.out (by kernel_rfl)) (fun _ _ _ h => h) (Or.inl ⟨by rfl, ?_⟩) ?_ ?_
                    rotate_left
                    · intro w'
                      go_simp
                      with_reducible rfl
                    rotate_left
                    · simp only [Act.put, List.setIfInBounds_toArray, List.set_cons_zero, List.set_cons_succ, i64_w, i32_w]
                      rfl
                    refine pure_ (i := 1) (N := some 32) (v := ?_) (a' := ?_) #[true, true, false, false, false, false, false, false, false, false, false, false, false, false, false, false, false, false, false, false, false, false, false] rfl rfl (any_of HT_.out (by kernel_rfl)) (fun _ _ _ h => h) (Or.inl ⟨by rfl, ?_⟩) ?_ ?_
                    rotate_left
                    · intro w'
                      go_simp
                      with_reducible rfl
                    rotate_left
                    · simp only [Act.put, List.setIfInBounds_toArray, List.set_cons_zero, List.set_cons_succ, i64_w, i32_w]
                      rfl
                    refine pure_ (i := 2) (N := some 33) (v := ?_) (a' := ?_) #[true, true, true, false, false, false, false, false, false, false, false, false, false, false, false, false, false, false, false, false, false, false, false] rfl rfl (any_of HT_.out (by kernel_rfl)) (fun _ _ _ h => h) (Or.inl ⟨by rfl, ?_⟩) ?_ ?_
                    rotate_left
                    · intro w'
                      go_simp
                      with_reducible rfl
                    rotate_left
                    · simp only [Act.put, List.setIfInBounds_toArray, List.set_cons_zero, List.set_cons_succ, i64_w, i32_w]
                      rfl
                    refine pure_ (i := 3) (N := some 34) (v := undef) (a' := ?_) #[true, true, true, true, false, false, false, false, false, false, false, false, false, false, false, false, false, false, false, false, false, false, false] rfl rfl (any_of HT_.out (by kernel_rfl)) (fun _ _ _ h => h) (Or.inr ⟨by rfl, rfl⟩) ?_ ?_
                    rotate_left
                    · simp only [Act.put, List.setIfInBounds_toArray, List.set_cons_zero, List.set_cons_succ, i64_w, i32_w]
                      rfl
                    refine pure_ (i := 4) (N := some 35) (v := undef) (a' := ?_) #[true, true, true, true, true, false, false, false, false, false, false, false, false, false, false, false, false, false, false, false, false, false, false] rfl rfl (any_of HT_.out (by kernel_rfl)) (fun _ _ _ h => h) (Or.inr ⟨by rfl, rfl⟩) ?_ ?_
                    rotate_left
                    · simp only [Act.put, List.setIfInBounds_toArray, List.set_cons_zero, List.set_cons_succ, i64_w, i32_w]
                      rfl
                    refine pure_ (i := 5) (N := some 36) (v := undef) (a' := ?_) #[true, true, true, true, true, true, false, false, false, false, false, false, false, false, false, false, false, false, false, false, false, false, false] rfl rfl (any_of HT_.out (by kernel_rfl)) (fun _ _ _ h => h) (Or.inr ⟨by rfl, rfl⟩) ?_ ?_
                    rotate_left
                    · simp only [Act.put, List.setIfInBounds_toArray, List.set_cons_zero, List.set_cons_succ, i64_w, i32_w]
                      rfl
                    refine pure_ (i := 6) (N := some 37) (v := undef) (a' := ?_) #[true, true, true, true, true, true, true, false, false, false, false, false, false, false, false, false, false, false, false, false, false, false, false] rfl rfl (any_of HT_.out (by kernel_rfl)) (fun _ _ _ h => h) (Or.inr ⟨by rfl, rfl⟩) ?_ ?_
                    rotate_left
                    · simp only [Act.put, List.setIfInBounds_toArray, List.set_cons_zero, List.set_cons_succ, i64_w, i32_w]
                      rfl
                    refine pure_ (i := 7) (N := some 38) (v := undef) (a' := ?_) #[true, true, true, true, true, true, true, true, false, false, false, false, false, false, false, false, false, false, false, false, false, false, false] rfl rfl (any_of HT_.out (by kernel_rfl)) (fun _ _ _ h => h) (Or.inr ⟨by rfl, rfl⟩) ?_ ?_
                    rotate_left
                    · simp only [Act.put, List.setIfInBounds_toArray, List.set_cons_zero, List.set_cons_succ, i64_w, i32_w]
                      rfl
                    refine pure_ (i := 8) (N := some 39) (v := undef) (a' := ?_) #[true, true, true, true, true, true, true, true, true, false, false, false, false, false, false, false, false, false, false, false, false, false, false] rfl rfl (any_of HT_.out (by kernel_rfl)) (fun _ _ _ h => h) (Or.inr ⟨by rfl, rfl⟩) ?_ ?_
                    rotate_left
                    · simp only [Act.put, List.setIfInBounds_toArray, List.set_cons_zero, List.set_cons_succ, i64_w, i32_w]
                      rfl
                    refine pure_ (i := 9) (N := some 40) (v := undef) (a' := ?_) #[true, true, true, true, true, true, true, true, true, true, false, false, false, false, false, false, false, false, false, false, false, false, false] rfl rfl (any_of HT_.out (by kernel_rfl)) (fun _ _ _ h => h) (Or.inr ⟨by rfl, rfl⟩) ?_ ?_
                    rotate_left
                    · simp only [Act.put, List.setIfInBounds_toArray, List.set_cons_zero, List.set_cons_succ, i64_w, i32_w]
                      rfl
                    refine pure_ (i := 10) (N := some 41) (v := undef) (a' := ?_) #[true, true, true, true, true, true, true, true, true, true, true, false, false, false, false, false, false, false, false, false, false, false, false] rfl rfl (any_of HT_.out (by kernel_rfl)) (fun _ _ _ h => h) (Or.inr ⟨by rfl, rfl⟩) ?_ ?_
                    rotate_left
                    · simp only [Act.put, List.setIfInBounds_toArray, List.set_cons_zero, List.set_cons_succ, i64_w, i32_w]
                      rfl
                    refine pure_ (i := 11) (N := some 42) (v := undef) (a' := ?_) #[true, true, true, true, true, true, true, true, true, true, true, true, false, false, false, false, false, false, false, false, false, false, false] rfl rfl (any_of HT_.out (by kernel_rfl)) (fun _ _ _ h => h) (Or.inr ⟨by rfl, rfl⟩) ?_ ?_
                    rotate_left
                    · simp only [Act.put, List.setIfInBounds_toArray, List.set_cons_zero, List.set_cons_succ, i64_w, i32_w]
                      rfl
                    refine pure_ (i := 12) (N := some 43) (v := ?_) (a' := ?_) #[true, true, true, true, true, true, true, true, true, true, true, true, true, false, false, false, false, false, false, false, false, false, false] rfl rfl (any_of HT_.out (by kernel_rfl)) (fun _ _ _ h => h) (Or.inl ⟨by rfl, ?_⟩) ?_ ?_
                    rotate_left
                    · intro w'
                      go_simp
                      with_reducible rfl
                    rotate_left
                    · simp only [Act.put, List.setIfInBounds_toArray, List.set_cons_zero, List.set_cons_succ, i64_w, i32_w]
                      rfl
                    refine pure_ (i := 13) (N := some 44) (v := ?_) (a' := ?_) #[true, true, true, true, true, true, true, true, true, true, true, true, true, true, false, false, false, false, false, false, false, false, false] rfl rfl (any_of HT_.out (by kernel_rfl)) (fun _ _ _ h => h) (Or.inl ⟨by rfl, ?_⟩) ?_ ?_
                    rotate_left
                    · intro w'
                      go_simp
                      with_reducible rfl
                    rotate_left
                    · simp only [Act.put, List.setIfInBounds_toArray, List.set_cons_zero, List.set_cons_succ, i64_w, i32_w]
                      rfl
                    refine pure_ (i := 14) (N := some 45) (v := undef) (a' := ?_) #[true, true, true, true, true, true, true, true, true, true, true, true, true, true, true, false, false, false, false, false, false, false, false] rfl rfl (any_of HT_.out (by kernel_rfl)) (fun _ _ _ h => h) (Or.inr ⟨by rfl, rfl⟩) ?_ ?_
                    rotate_left
                    · simp only [Act.put, List.setIfInBounds_toArray, List.set_cons_zero, List.set_cons_succ, i64_w, i32_w]
                      rfl
                    refine pure_ (i := 15) (N := some 46) (v := undef) (a' := ?_) #[true, true, true, true, true, true, true, true, true, true, true, true, true, true, true, true, false, false, false, false, false, false, false] rfl rfl (any_of HT_.out (by kernel_rfl)) (fun _ _ _ h => h) (Or.inr ⟨by rfl, rfl⟩) ?_ ?_
                    rotate_left
                    · simp only [Act.put, List.setIfInBounds_toArray, List.set_cons_zero, List.set_cons_succ, i64_w, i32_w]
                      rfl
                    refine pure_ (i := 16) (N := some 47) (v := undef) (a' := ?_) #[true, true, true, true, true, true, true, true, true, true, true, true, true, true, true, true, true, false, false, false, false, false, false] rfl rfl (any_of HT_.out (by kernel_rfl)) (fun _ _ _ h => h) (Or.inr ⟨by rfl, rfl⟩) ?_ ?_
                    rotate_left
                    · simp only [Act.put, List.setIfInBounds_toArray, List.set_cons_zero, List.set_cons_succ, i64_w, i32_w]
                      rfl
                    refine pure_ (i := 17) (N := some 48) (v := undef) (a' := ?_) #[true, true, true, true, true, true, true, true, true, true, true, true, true, true, true, true, true, true, false, false, false, false, false] rfl rfl (any_of HT_.out (by kernel_rfl)) (fun _ _ _ h => h) (Or.inr ⟨by rfl, rfl⟩) ?_ ?_
                    rotate_left
                    · simp only [Act.put, List.setIfInBounds_toArray, List.set_cons_zero, List.set_cons_succ, i64_w, i32_w]
                      rfl
                    refine pure_ (i := 18) (N := some 49) (v := undef) (a' := ?_) #[true, true, true, true, true, true, true, true, true, true, true, true, true, true, true, true, true, true, true, false, false, false, false] rfl rfl (any_of HT_.out (by kernel_rfl)) (fun _ _ _ h => h) (Or.inr ⟨by rfl, rfl⟩) ?_ ?_
                    rotate_left
                    · simp only [Act.put, List.setIfInBounds_toArray, List.set_cons_zero, List.set_cons_succ, i64_w, i32_w]
                      rfl
                    refine pure_ (i := 19) (N := some 50) (v := undef) (a' := ?_) #[true, true, true, true, true, true, true, true, true, true, true, true, true, true, true, true, true, true, true, true, false, false, false] rfl rfl (any_of HT_.out (by kernel_rfl)) (fun _ _ _ h => h) (Or.inr ⟨by rfl, rfl⟩) ?_ ?_
                    rotate_left
                    · simp only [Act.put, List.setIfInBounds_toArray, List.set_cons_zero, List.set_cons_succ, i64_w, i32_w]
                      rfl
                    refine pure_ (i := 20) (N := some 51) (v := undef) (a' := ?_) #[true, true, true, true, true, true, true, true, true, true, true, true, true, true, true, true, true, true, true, true, true, false, false] rfl rfl (any_of HT_.out (by kernel_rfl)) (fun _ _ _ h => h) (Or.inr ⟨by rfl, rfl⟩) ?_ ?_
                    rotate_left
                    · simp only [Act.put, List.setIfInBounds_toArray, List.set_cons_zero, List.set_cons_succ, i64_w, i32_w]
                      rfl
                    refine pure_ (i := 21) (N := some 52) (v := undef) (a' := ?_) #[true, true, true, true, true, true, true, true, true, true, true, true, true, true, true, true, true, true, true, true, true, true, false] rfl rfl (any_of HT_.out (by kernel_rfl)) (fun _ _ _ h => h) (Or.inr ⟨by rfl, rfl⟩) ?_ ?_
                    rotate_left
                    · simp only [Act.put, List.setIfInBounds_toArray, List.set_cons_zero, List.set_cons_succ, i64_w, i32_w]
                      rfl
                    refine pure_ (i := 22) (N := some 53) (v := ?_) (a' := ?_) #[true, true, true, true, true, true, true, true, true, true, true, true, true, true, true, true, true, true, true, true, true, true, true] rfl rfl (any_of HT_.out (by kernel_rfl)) (fun _ _ _ h => h) (Or.inl ⟨by rfl, ?_⟩) ?_ ?_
                    rotate_left
                    · intro w'
                      go_simp
                      with_reducible rfl
                    rotate_left
                    · simp only [Act.put, List.setIfInBounds_toArray, List.set_cons_zero, List.set_cons_succ, i64_w, i32_w]
                      rfl
                    refine done_ (done_of HT_.out (by kernel_rfl)) ?_
                    try go_wp2
                    go_roundg k2
                    case measure => have := HK1.out; have := HK2.out; omega
                    case rel => exact ⟨(x7_2), (x8_2), (wrap64 (x21_1 + 1)), (by first | rfl | (simp; done) | (simp [*]; done)), H', ⟨by have := HK1.out; have := HK2.out; omega⟩, ⟨by (with_reducible repeat (first | apply Kd.R_alloc | apply Kd.R_drewN | apply Kd.R_drew)); exact HO_7.out⟩, ⟨by (with_reducible repeat (first | apply Kd.R_alloc | apply Kd.R_drewN | apply Kd.R_drew)); exact Kd.R_mono HO_8.out (fun _ hk => hk.1)⟩, ⟨by (with_reducible repeat (first | apply Kd.R_alloc | apply Kd.R_drewN | apply Kd.R_drew)); exact Kd.R_mono HO_19.out (fun _ hk => hk.1)⟩, ⟨by repeat (first | (with_reducible first | exact HB.out | apply below_alloc | apply pw_below_drewN | apply below_drew1 | refine below_set ?_ GE126.out) | exact HB.out)⟩⟩
            · rw [if_neg c12] at H
              exact absurd H (by simp)
          · rw [if_neg c11] at H
            exact absurd H (by simp)
        · rw [if_neg c10] at H
          exact absurd H (by simp)
      · rw [if_neg c9] at H
        have c9b0 : decide (x21_1 < (t122.length : Int)) = false := decide_eq_false c9
        clear c9
        obtain rfl := Option.some.inj H
        go_wp2
        go_ret
        exact ⟨_, by first | rfl | (simp [errW_none, errW_some] <;> rfl) | (simp [*, errW_none, errW_some] <;> rfl), by (with_reducible repeat (first | apply Kd.R_alloc | apply Kd.R_drewN | apply Kd.R_drew)); exact HO_7.out, by repeat (first | (with_reducible first | exact HB.out | apply below_alloc | apply pw_below_drewN | apply below_drew1) | exact HB.out)⟩

end Go.Proofs.YtijldedhcjkhiaaDoor.X
