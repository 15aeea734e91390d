import Derived.Test.YtijldedhcjkhiaaDoorSI0
import Derived.Test.YtijldedhcjkhiaaDoorSI7
namespace Go.Proofs.YtijldedhcjkhiaaDoor.I
open Go.RowKit Go.Proofs.YtijldedhcjkhiaaDoorW.PrintWords Go.Proofs.YtijldedhcjkhiaaDoorW.PrintLast Go.Proofs.YtijldedhcjkhiaaDoorW.PrintMore
attribute [local go_sem] max2_int min2_int max_two min_two max_three min_three max_four min_four   -- for this text's walks alone
set_option linter.unusedVariables false
set_option linter.unusedSimpArgs false
def spec_PathParts.f (k : Nat) (a0 : Int) (a1 : Int) : Option ((List (S34))) := (spec_pathIn.f k a0 0 a1).bind fun t289 => (some t289)
theorem spec_PathParts.mono : ∀ a0 a1 k, LeO (spec_PathParts.f k a0 a1) (spec_PathParts.f (k + 1) a0 a1) := by
 intro a0 a1 k
 unfold spec_PathParts.f
 repeat' first
   | (with_reducible exact spec_pathIn.mono _ _ _ _)
   | (with_reducible exact LeO.refl _)
   | (with_reducible exact LeO.none _)
   | (with_reducible refine LeO.ite ?_ ?_)
   | (with_reducible refine LeO.bind ?_ (fun _ => ?_))
   | exact spec_pathIn.mono _ _ _ _
   | exact LeO.none _
   | refine LeO.ite ?_ ?_
   | refine LeO.bind ?_ (fun _ => ?_)
set_option maxHeartbeats 8000000 in
set_option maxRecDepth 100000 in
theorem spec_PathParts.calls (k : Nat) (a0 : Int) (a1 : Int) (r : List (S34)) (w : World) (h : spec_PathParts.f k a0 a1 = some r) :
  Calls Tryd.prog 49 #[.int .u64 a0, .int .u64 a1] w fun e w' => ∃ v0_ : Value, e = .returned (v0_) ∧ Kd.R k34 34 w' w.heap.size (fun _ => True) v0_ r ∧ Below w.heap.size w w' := by
 have hu34 := Tryd.underlying34
 have HB := Aside0.mk (Below.refl w.heap.size w)
 have H : ((spec_pathIn.f k a0 0 a1).bind fun t289 => (some t289)) = some r := h
 clear h
 replace H := Option.bind_eq_some_iff.mp H
 obtain ⟨t289, A30, H⟩ := H
 replace H : (some t289) = some r := H
 have A3 := Aside0.mk A30
 clear A30
 obtain rfl := Option.some.inj H
 go_enter Tryd.func49, Tryd.ntmps49
 go_wp2_with (first | ((with_reducible refine gate_callee (f := 101) rfl ?_); refine goesL_ (some 8) rfl rfl Tryd.func101 (by kernel_rfl) rfl #[.int .u64 a0, .agg #[.int .u64 0, .int .u64 a1]] rfl (by (try simp only [List.map_toArray, List.map_cons, List.map_nil]); first | done | rfl | (simp only [List.length_drop, List.length_take]; rfl)) ?_; (with_reducible refine (spec_pathIn.calls k a0 0 a1 t289 _ A3.out).mono ?_); rintro e w4 ⟨v290, rfl, ho0, hb⟩; refine ⟨_, rfl, ?_⟩; have n0_ := Aside0.mk (Kd.R_lower ho0 (below_size (by repeat (first | (with_reducible first | exact HB.out | apply below_alloc | apply pw_below_drewN | apply below_drew1) | exact HB.out)))); have n1_ := Aside0.mk (below_step (by repeat (first | (with_reducible first | exact HB.out | apply below_alloc | apply pw_below_drewN | apply below_drew1) | exact HB.out)) hb); clear HB; have HO291 := n0_; have HB := n1_; clear n0_ n1_; (try clear hb); (try clear hb2); (try clear hk); (try clear hi); (try clear ho0)))
 go_ret
 exact ⟨_, by first | rfl | (simp [errW_none, errW_some] <;> rfl) | (simp [*, errW_none, errW_some] <;> rfl), by (with_reducible repeat (first | apply Kd.R_alloc | apply Kd.R_drewN | apply Kd.R_drew)); exact HO291.out, by repeat (first | (with_reducible first | exact HB.out | apply below_alloc | apply pw_below_drewN | apply below_drew1) | exact HB.out)⟩
mutual
def spec_Nodes.l0 : Nat → List (S70) → Int → Int → Option ((List (S70)))
 | 0, _, _, _ => none
 | k + 1, x3, x293000, x293001 => if x293000 < x293001 then (spec_Nodes.l1 k x3 0 x293000 x293001) else (some x3)
def spec_Nodes.l1 : Nat → List (S70) → Int → Int → Int → Option ((List (S70)))
 | 0, _, _, _, _ => none
 | k + 1, x3, x4, x293000, x293001 => if x4 < 63 then (if 0 ≤ x4 then (if (Go.bits .and .u64 (shr .u64 x293000 x4) 1) = 0 then (if 0 ≤ (IntKind.u64.wrap (x4 + 1)) then (if (shl .u64 1 (IntKind.u64.wrap (x4 + 1))) ≤ (IntKind.u64.wrap (x293001 - x293000)) then (spec_Nodes.l1 k x3 (IntKind.u64.wrap (x4 + 1)) x293000 x293001) else (if x3.length < 8796093022208 then (spec_Nodes.l0 k (x3 ++ [(⟨x4, shr .u64 x293000 x4⟩ : S70)]) (IntKind.u64.wrap (x293000 + (shl .u64 1 x4))) x293001) else (none))) else (none)) else (if x3.length < 8796093022208 then (spec_Nodes.l0 k (x3 ++ [(⟨x4, shr .u64 x293000 x4⟩ : S70)]) (IntKind.u64.wrap (x293000 + (shl .u64 1 x4))) x293001) else (none))) else (none)) else (if 0 ≤ x4 then (if x3.length < 8796093022208 then (spec_Nodes.l0 k (x3 ++ [(⟨x4, shr .u64 x293000 x4⟩ : S70)]) (IntKind.u64.wrap (x293000 + (shl .u64 1 x4))) x293001) else (none)) else (none))
end
def spec_Nodes.f (k : Nat) (a0_0 : Int) (a0_1 : Int) : Option ((List (S70))) := spec_Nodes.l0 k ([] : List (S70)) a0_0 a0_1
theorem spec_Nodes.mono_l : ∀ k, (∀ y0 y1 y2, LeO (spec_Nodes.l0 k y0 y1 y2) (spec_Nodes.l0 (k + 1) y0 y1 y2)) ∧ (∀ y0 y1 y2 y3, LeO (spec_Nodes.l1 k y0 y1 y2 y3) (spec_Nodes.l1 (k + 1) y0 y1 y2 y3))
 | 0 => ⟨fun _ _ _ r h => by simp [spec_Nodes.l0] at h, fun _ _ _ _ r h => by simp [spec_Nodes.l1] at h⟩
 | k + 1 => by
  obtain ⟨ih0, ih1⟩ := spec_Nodes.mono_l k
  refine ⟨?_, ?_⟩
  ·intro y0 y1 y2
   unfold spec_Nodes.l0
   repeat' first
   | (with_reducible exact ih0 _ _ _)
   | (with_reducible exact ih1 _ _ _ _)
   | (with_reducible exact LeO.refl _)
   | (with_reducible exact LeO.none _)
   | (with_reducible refine LeO.ite ?_ ?_)
   | (with_reducible refine LeO.bind ?_ (fun _ => ?_))
   | exact ih0 _ _ _
   | exact ih1 _ _ _ _
   | exact LeO.none _
   | refine LeO.ite ?_ ?_
   | refine LeO.bind ?_ (fun _ => ?_)
  ·intro y0 y1 y2 y3
   unfold spec_Nodes.l1
   repeat' first
   | (with_reducible exact ih0 _ _ _)
   | (with_reducible exact ih1 _ _ _ _)
   | (with_reducible exact LeO.refl _)
   | (with_reducible exact LeO.none _)
   | (with_reducible refine LeO.ite ?_ ?_)
   | (with_reducible refine LeO.bind ?_ (fun _ => ?_))
   | exact ih0 _ _ _
   | exact ih1 _ _ _ _
   | exact LeO.none _
   | refine LeO.ite ?_ ?_
   | refine LeO.bind ?_ (fun _ => ?_)
theorem spec_Nodes.mono : ∀ a0 a1 k, LeO (spec_Nodes.f k a0 a1) (spec_Nodes.f (k + 1) a0 a1) := by
 intro a0 a1 k
 obtain ⟨ih0, ih1⟩ := spec_Nodes.mono_l k
 unfold spec_Nodes.f
 repeat' first
   | (with_reducible exact ih0 _ _ _)
   | (with_reducible exact ih1 _ _ _ _)
   | (with_reducible exact LeO.refl _)
   | (with_reducible exact LeO.none _)
   | (with_reducible refine LeO.ite ?_ ?_)
   | (with_reducible refine LeO.bind ?_ (fun _ => ?_))
   | exact ih0 _ _ _
   | exact ih1 _ _ _ _
   | exact LeO.none _
   | refine LeO.ite ?_ ?_
   | refine LeO.bind ?_ (fun _ => ?_)
set_option maxHeartbeats 8000000 in
set_option maxRecDepth 100000 in
theorem spec_Nodes.calls (k : Nat) (a0_0 : Int) (a0_1 : Int) (r : List (S70)) (w : World) (h : spec_Nodes.f k a0_0 a0_1 = some r) :
  Calls Tryd.prog 20 #[.agg #[.int .u64 a0_0, .int .u64 a0_1]] w fun e w' => ∃ v0_ : Value, e = .returned (v0_) ∧ Kd.R k70 70 w' w.heap.size (fun _ => True) v0_ r ∧ Below w.heap.size w w' := by
 have hu34 := Tryd.underlying34
 have hu70 := Tryd.underlying70
 have HB := Aside0.mk (Below.refl w.heap.size w)
 have H : (spec_Nodes.l0 k ([] : List (S70)) a0_0 a0_1) = some r := h
 clear h
 have H' := Aside0.mk H
 clear H
 go_enter Tryd.func20, Tryd.ntmps20
 go_wp2_with (first | ((with_reducible refine gate_dst (N := 1) rfl ?_); refine box_event ?hg (N := 1) ?hd (cs := #[.int .u64 a0_0, .int .u64 a0_1]) (t := 34) ?hr ?_; (case hd => rfl); (case hg => rfl); (case hr => first | (go_simp; done) | (go_simp; rfl)); intro gb292 hg w2 hbox hb; have n0_ := Aside0.mk (below_step (by repeat (first | (with_reducible first | exact HB.out | apply below_alloc | apply pw_below_drewN | apply below_drew1) | exact HB.out)) hb); have n1_ := Aside0.mk (hbox); have n2_ := Aside0.mk ((by rw [hg]; exact (below_size (by repeat (first | (with_reducible first | exact HB.out | apply below_alloc | apply pw_below_drewN | apply below_drew1) | exact HB.out))) : w.heap.size ≤ gb292)); have n3_ := Aside0.mk ((by rw [hg]; exact (below_size (by repeat (first | (with_reducible first | exact HB.out | apply below_alloc | apply pw_below_drewN | apply below_drew1) | exact HB.out))) : w.heap.size ≤ gb292)); clear HB; have HB := n0_; have BK292 := n1_; have GW292 := n2_; have GE292 := n3_; clear n0_ n1_ n2_ n3_; clear hb hbox hg))
 try simp only [Act.put, List.setIfInBounds_toArray, List.set_cons_zero, List.set_cons_succ]
 go_loopg [3] k (fun kq v3 w' => ∃ (x3_1 : List (S70)) (x293000_1 : Int), Aside0 (spec_Nodes.l0 kq x3_1 x293000_1 a0_1 = some r) ∧ Aside0 (kq ≤ k) ∧ Aside0 (Kd.R k70 70 w' w.heap.size (fun _ => True) v3 x3_1) ∧ Aside0 (w'.heap[gb292]? = some (.cells #[.int .u64 x293000_1, .int .u64 a0_1] 34 (0, 0))) ∧ Aside0 (Below w.heap.size w w'))
 case atStart => exact ⟨(([] : List (S70))), (a0_0), H', ⟨Nat.le_refl _⟩, ⟨by first | exact Kd.R_nil _ _ _ _ _ | exact Kd.N_nil _ _ _ _ _ | exact Kd.V_nil _ _ _ _ _ | exact Kd.Q_nil _ _ _ _ _ | exact Kd.S_nil _ _ _ _ _⟩, ⟨by (with_reducible repeat (first | refine blk_drewN ?_ _ | refine blk_drew ?_ | refine blk_alloc ?_ _)); exact BK292.out⟩, ⟨by repeat (first | (with_reducible first | exact HB.out | apply below_alloc | apply pw_below_drewN | apply below_drew1 | refine below_set ?_ GE292.out) | exact HB.out)⟩⟩
 case round =>
  clear H'
  try clear c2
  try clear p2
  obtain ⟨x3_1, x293000_1, HA, HK1, HO_3, BK292, HB⟩ := hrel
  cases gk with
  | zero => exact absurd HA.out (by simp [spec_Nodes.l0])
  | succ k1 =>
   have H := HA.out
   clear HA
   simp only [spec_Nodes.l0] at H
   by_cases c3 : x293000_1 < a0_1
   ·rw [if_pos c3] at H
    have c3b0 : decide (x293000_1 < a0_1) = true := decide_eq_true c3
    clear c3
    have H' := Aside0.mk H
    clear H
    have hcz4_0 : wr.cell? ⟨gb292, 0, none⟩ = some (.int .u64 x293000_1) := (blk_cell BK292.out 0).trans rfl
    have hcz4_1 : wr.cell? ⟨gb292, 1, none⟩ = some (.int .u64 a0_1) := (blk_cell BK292.out 1).trans rfl
    have hfz4_0 := blk_frozen BK292.out 0
    have hfz4_1 := blk_frozen BK292.out 1
    go_wp2
    try simp only [Act.put, List.setIfInBounds_toArray, List.set_cons_zero, List.set_cons_succ]
    go_loopg [4] k1 (fun kq v4 w' => ∃ (x4_2 : Int), v4 = .int .u64 x4_2 ∧ Aside0 (spec_Nodes.l1 kq x3_1 x4_2 x293000_1 a0_1 = some r) ∧ Aside0 (kq ≤ k1) ∧ Aside0 (Kd.R k70 70 w' w.heap.size (fun _ => True) u3 x3_1) ∧ Aside0 (w'.heap[gb292]? = some (.cells #[.int .u64 x293000_1, .int .u64 a0_1] 34 (0, 0))) ∧ Aside0 (Below w.heap.size w w'))
    case atStart => exact ⟨(0), (by first | rfl | (simp; done) | (simp [*]; done)), H', ⟨Nat.le_refl _⟩, ⟨by (with_reducible repeat (first | apply Kd.R_alloc | apply Kd.R_drewN | apply Kd.R_drew)); exact HO_3.out⟩, ⟨by (with_reducible repeat (first | refine blk_drewN ?_ _ | refine blk_drew ?_ | refine blk_alloc ?_ _)); exact BK292.out⟩, ⟨by repeat (first | (with_reducible first | exact HB.out | apply below_alloc | apply pw_below_drewN | apply below_drew1 | refine below_set ?_ GE292.out) | exact HB.out)⟩⟩
    case round =>
     clear H'
     try clear c2
     try clear p2
     try clear c3
     try clear c3b0
     try clear hcz4_0
     try clear hcz4_1
     try clear hfz4_0
     try clear hfz4_1
     try clear p2
     obtain ⟨x4_2, rfl, HA, HK2, HO_3, BK292, HB⟩ := hrel
     cases gk with
     | zero => exact absurd HA.out (by simp [spec_Nodes.l1])
     | succ k2 =>
      have H := HA.out
      clear HA
      simp only [spec_Nodes.l1] at H
      by_cases c5 : x4_2 < 63
      ·rw [if_pos c5] at H
       have c5b0 : decide (x4_2 < 63) = true := decide_eq_true c5
       clear c5
       by_cases c6 : 0 ≤ x4_2
       ·rw [if_pos c6] at H
        have c6b0 := eq_true c6
        have c6b1 : decide (0 ≤ x4_2) = true := decide_eq_true c6
        clear c6
        obtain ⟨ji7, hji7⟩ : ∃ j_ : Int, (shr .u64 x293000_1 x4_2) = j_ := ⟨_, rfl⟩
        replace H : (if (Go.bits .and .u64 (ji7) 1) = 0 then (if 0 ≤ (IntKind.u64.wrap (x4_2 + 1)) then (if (shl .u64 1 (IntKind.u64.wrap (x4_2 + 1))) ≤ (IntKind.u64.wrap (a0_1 - x293000_1)) then (spec_Nodes.l1 k2 x3_1 (IntKind.u64.wrap (x4_2 + 1)) x293000_1 a0_1) else (if x3_1.length < 8796093022208 then (spec_Nodes.l0 k2 (x3_1 ++ [(⟨x4_2, ji7⟩ : S70)]) (IntKind.u64.wrap (x293000_1 + (shl .u64 1 x4_2))) a0_1) else (none))) else (none)) else (if x3_1.length < 8796093022208 then (spec_Nodes.l0 k2 (x3_1 ++ [(⟨x4_2, ji7⟩ : S70)]) (IntKind.u64.wrap (x293000_1 + (shl .u64 1 x4_2))) a0_1) else (none))) = some r := by first | (rw [hji7] at H; exact H) | (simp only [hji7] at H ⊢; exact H)
        have hji7_ : (x293000_1 / 2 ^ min x4_2.toNat 64) = ji7 := hji7
        have hji7z : x4_2 ≤ 64 → (x293000_1 / 2 ^ x4_2.toNat) = ji7 := shr_small hji7
        by_cases c8 : (Go.bits .and .u64 (ji7) 1) = 0
        ·rw [if_pos c8] at H
         have c8b0 : ((Go.bits .and .u64 (ji7) 1) == 0) = true := beq_iff_eq.mpr c8
         have c8b1 : ((Go.bits .and .u64 (ji7) 1) != 0) = false := bne_eq_false_iff_eq.mpr c8
         clear c8
         obtain ⟨ji9, hji9⟩ : ∃ j_ : Int, (IntKind.u64.wrap (x4_2 + 1)) = j_ := ⟨_, rfl⟩
         replace H : (if 0 ≤ (ji9) then (if (shl .u64 1 (ji9)) ≤ (IntKind.u64.wrap (a0_1 - x293000_1)) then (spec_Nodes.l1 k2 x3_1 ji9 x293000_1 a0_1) else (if x3_1.length < 8796093022208 then (spec_Nodes.l0 k2 (x3_1 ++ [(⟨x4_2, ji7⟩ : S70)]) (IntKind.u64.wrap (x293000_1 + (shl .u64 1 x4_2))) a0_1) else (none))) else (none)) = some r := by first | (rw [hji9] at H; exact H) | (simp only [hji9] at H ⊢; exact H)
         by_cases c10 : 0 ≤ (ji9)
         ·rw [if_pos c10] at H
          have c10b0 := eq_true c10
          have c10b1 : decide (0 ≤ (ji9)) = true := decide_eq_true c10
          clear c10
          obtain ⟨ji11, hji11⟩ : ∃ j_ : Int, (shl .u64 1 (ji9)) = j_ := ⟨_, rfl⟩
          replace H : (if (ji11) ≤ (IntKind.u64.wrap (a0_1 - x293000_1)) then (spec_Nodes.l1 k2 x3_1 ji9 x293000_1 a0_1) else (if x3_1.length < 8796093022208 then (spec_Nodes.l0 k2 (x3_1 ++ [(⟨x4_2, ji7⟩ : S70)]) (IntKind.u64.wrap (x293000_1 + (shl .u64 1 x4_2))) a0_1) else (none))) = some r := by first | (rw [hji11] at H; exact H) | (simp only [hji11] at H ⊢; exact H)
          have hji11_ : (IntKind.u64.wrap (1 * 2 ^ min (ji9).toNat 64)) = ji11 := hji11
          have hji11z : (ji9) ≤ 64 → (IntKind.u64.wrap (1 * 2 ^ (ji9).toNat)) = ji11 := shl_small hji11
          have hji11u : (IntKind.u64.wrap (2 ^ min (ji9).toNat 64)) = ji11 := by have h_ := hji11_; rw [Int.one_mul] at h_; exact h_
          have hji11v : (ji9) ≤ 64 → (IntKind.u64.wrap (2 ^ (ji9).toNat)) = ji11 := fun hle_ => by have h_ := hji11z hle_; rw [Int.one_mul] at h_; exact h_
          by_cases c12 : (ji11) ≤ (IntKind.u64.wrap (a0_1 - x293000_1))
          ·rw [if_pos c12] at H
           have c12b0 : decide ((ji11) ≤ (IntKind.u64.wrap (a0_1 - x293000_1))) = true := decide_eq_true c12
           clear c12
           have H' := Aside0.mk H
           clear H
           have hcz13_0 : wr.cell? ⟨gb292, 0, none⟩ = some (.int .u64 x293000_1) := (blk_cell BK292.out 0).trans rfl
           have hcz13_1 : wr.cell? ⟨gb292, 1, none⟩ = some (.int .u64 a0_1) := (blk_cell BK292.out 1).trans rfl
           have hfz13_0 := blk_frozen BK292.out 0
           have hfz13_1 := blk_frozen BK292.out 1
           go_wp2
           go_roundg k2
           case measure => have := HK1.out; have := HK2.out; omega
           case rel => exact ⟨(ji9), (by first | rfl | (simp; done) | (simp only [← hji9] <;> (first | rfl | simp)) | (simp [*]; done)), H', ⟨by have := HK1.out; have := HK2.out; omega⟩, ⟨by (with_reducible repeat (first | apply Kd.R_alloc | apply Kd.R_drewN | apply Kd.R_drew)); exact HO_3.out⟩, ⟨by (with_reducible repeat (first | refine blk_drewN ?_ _ | refine blk_drew ?_ | refine blk_alloc ?_ _)); exact BK292.out⟩, ⟨by repeat (first | (with_reducible first | exact HB.out | apply below_alloc | apply pw_below_drewN | apply below_drew1 | refine below_set ?_ GE292.out) | exact HB.out)⟩⟩
          ·rw [if_neg c12] at H
           have c12b0 : decide ((ji11) ≤ (IntKind.u64.wrap (a0_1 - x293000_1))) = false := decide_eq_false c12
           clear c12
           have c14b0 := eq_true (of_decide_eq_true (by first | (with_reducible assumption) | assumption) : 0 ≤ x4_2)
           by_cases c15 : x3_1.length < 8796093022208
           ·rw [if_pos c15] at H
            have LMc15 := Aside0.mk c15
            clear c15
            obtain ⟨y293, hy293⟩ : ∃ y_ : List (S70), y_ = (x3_1 ++ [(⟨x4_2, ji7⟩ : S70)]) := ⟨_, rfl⟩
            replace H : (spec_Nodes.l0 k2 y293 (IntKind.u64.wrap (x293000_1 + (shl .u64 1 x4_2))) a0_1) = some r := by first | (rw [hy293]; with_reducible exact H) | (have H2_ := (Option.bind_some _ _).symm.trans H; rw [hy293]; with_reducible exact H2_) | (have H2_ := (Option.bind_some _ _).symm.trans H; with_reducible exact H2_) | with_reducible exact H | (rw [hy293]; exact H) | exact H
            have Ny293 := Aside0.mk hy293
            clear hy293
            have c16b0 := eq_true (of_decide_eq_true (by first | (with_reducible assumption) | assumption) : 0 ≤ x4_2)
            obtain ⟨ji17, hji17⟩ : ∃ j_ : Int, (shl .u64 1 x4_2) = j_ := ⟨_, rfl⟩
            replace H : (spec_Nodes.l0 k2 y293 (IntKind.u64.wrap (x293000_1 + (ji17))) a0_1) = some r := by first | (rw [hji17] at H; exact H) | (simp only [hji17] at H ⊢; exact H)
            have hji17_ : (IntKind.u64.wrap (1 * 2 ^ min x4_2.toNat 64)) = ji17 := hji17
            have hji17z : x4_2 ≤ 64 → (IntKind.u64.wrap (1 * 2 ^ x4_2.toNat)) = ji17 := shl_small hji17
            have hji17u : (IntKind.u64.wrap (2 ^ min x4_2.toNat 64)) = ji17 := by have h_ := hji17_; rw [Int.one_mul] at h_; exact h_
            have hji17v : x4_2 ≤ 64 → (IntKind.u64.wrap (2 ^ x4_2.toNat)) = ji17 := fun hle_ => by have h_ := hji17z hle_; rw [Int.one_mul] at h_; exact h_
            have H' := Aside0.mk H
            clear H
            have hcz18_0 : wr.cell? ⟨gb292, 0, none⟩ = some (.int .u64 x293000_1) := (blk_cell BK292.out 0).trans rfl
            have hcz18_1 : wr.cell? ⟨gb292, 1, none⟩ = some (.int .u64 a0_1) := (blk_cell BK292.out 1).trans rfl
            have hfz18_0 := blk_frozen BK292.out 0
            have hfz18_1 := blk_frozen BK292.out 1
            go_wp2_with (first | ((with_reducible refine gate_builtin (b := .append) (xs := #[.tmp 33, .tmp 40]) rfl ?_); at_builtin; refine Kd.R_append k70 (w0 := w) w.heap.size rfl (.tmp 33) (.tmp 40) 29 70 (.agg #[(.int .u64 0), (.int .u64 0)]) 16 rfl Tryd.underlying29 info70 rfl (by decide) (by omega) u3 x3_1 (⟨x4_2, ji7⟩ : S70) [.int .u64 x4_2, .int .u64 ji7] (fun _ => True) (fun _ => False) rfl rfl ?aP (fun _ hk => hk.elim) ?aF ?aO ?aB ?aS ?aL ?_; (case aP => exact k70_mkM _ _ _ (⟨x4_2, ji7⟩ : S70)); (case aB => exact (by repeat (first | (with_reducible first | exact HB.out | apply below_alloc | apply pw_below_drewN | apply below_drew1 | refine below_set ?_ GE292.out) | exact HB.out))); (case aF => exact (fun _ _ => trivial)); (case aO => exact (by (with_reducible repeat (first | apply Kd.R_alloc | apply Kd.R_drewN | apply Kd.R_drew)); exact HO_3.out)); (case aS => exact (below_size (by repeat (first | (with_reducible first | exact HB.out | apply below_alloc | apply pw_below_drewN | apply below_drew1 | refine below_set ?_ GE292.out) | exact HB.out)))); (case aL => have := LMc15.out; omega); intro v294 w19 ho hb hg hat; rw [← Ny293.out] at ho; have n0_ := Aside0.mk (blk_grown (g := gb292) (o := .cells #[.int .u64 x293000_1, .int .u64 a0_1] 34 (0, 0)) (by (with_reducible repeat (first | refine blk_drewN ?_ _ | refine blk_drew ?_ | refine blk_alloc ?_ _)); exact BK292.out) hg (Kd.R_ne HO_3.out BK292.out (by decide))); have n1_ := Aside0.mk (hb); have n2_ := Aside0.mk (ho); clear BK292; clear HB; clear HO_3; have BK292 := n0_; have HB := n1_; have HO295 := n2_; clear n0_ n1_ n2_; clear ho hb hg hat; have hcz20_0 : w19.cell? ⟨gb292, 0, none⟩ = some (.int .u64 x293000_1) := (blk_cell BK292.out 0).trans rfl; have hcz20_1 : w19.cell? ⟨gb292, 1, none⟩ = some (.int .u64 a0_1) := (blk_cell BK292.out 1).trans rfl; have hfz20_0 := blk_frozen BK292.out 0; have hfz20_1 := blk_frozen BK292.out 1))
            go_roundg k2
            case measure => have := HK1.out; have := HK2.out; omega
            case rel => exact ⟨(y293), (IntKind.u64.wrap (x293000_1 + (ji17))), H', ⟨by have := HK1.out; have := HK2.out; omega⟩, ⟨by (with_reducible repeat (first | apply Kd.R_alloc | apply Kd.R_drewN | apply Kd.R_drew)); exact Kd.R_mono (Kd.R_far (p := ⟨gb292, 0, none⟩) (Kd.R_types HO295.out BK292.out (by decide)) (fun _ hk => hk.2) (.int .u64 (IntKind.u64.wrap (x293000_1 + (ji17))))) (fun _ hk => trivial)⟩, ⟨by (with_reducible repeat (first | refine blk_drewN ?_ _ | refine blk_drew ?_ | refine blk_alloc ?_ _)); refine blk_put (cs := #[.int .u64 x293000_1, .int .u64 a0_1]) ?_ 0 _ rfl; (with_reducible repeat (first | refine blk_drewN ?_ _ | refine blk_drew ?_ | refine blk_alloc ?_ _)); exact BK292.out⟩, ⟨by repeat (first | (with_reducible first | exact HB.out | apply below_alloc | apply pw_below_drewN | apply below_drew1 | refine below_set ?_ GE292.out) | exact HB.out)⟩⟩
           ·rw [if_neg c15] at H
            exact absurd H (by simp)
         ·rw [if_neg c10] at H
          exact absurd H (by simp)
        ·rw [if_neg c8] at H
         have c8b0 : ((Go.bits .and .u64 (ji7) 1) == 0) = false := beq_eq_false_iff_ne.mpr c8
         have c8b1 : ((Go.bits .and .u64 (ji7) 1) != 0) = true := bne_iff_ne.mpr c8
         have c21b0 := eq_true (of_decide_eq_true (by first | (with_reducible assumption) | assumption) : 0 ≤ x4_2)
         by_cases c22 : x3_1.length < 8796093022208
         ·rw [if_pos c22] at H
          have LMc22 := Aside0.mk c22
          clear c22
          obtain ⟨y296, hy296⟩ : ∃ y_ : List (S70), y_ = (x3_1 ++ [(⟨x4_2, ji7⟩ : S70)]) := ⟨_, rfl⟩
          replace H : (spec_Nodes.l0 k2 y296 (IntKind.u64.wrap (x293000_1 + (shl .u64 1 x4_2))) a0_1) = some r := by first | (rw [hy296]; with_reducible exact H) | (have H2_ := (Option.bind_some _ _).symm.trans H; rw [hy296]; with_reducible exact H2_) | (have H2_ := (Option.bind_some _ _).symm.trans H; with_reducible exact H2_) | with_reducible exact H | (rw [hy296]; exact H) | exact H
          have Ny296 := Aside0.mk hy296
          clear hy296
          have c23b0 := eq_true (of_decide_eq_true (by first | (with_reducible assumption) | assumption) : 0 ≤ x4_2)
          obtain ⟨ji24, hji24⟩ : ∃ j_ : Int, (shl .u64 1 x4_2) = j_ := ⟨_, rfl⟩
          replace H : (spec_Nodes.l0 k2 y296 (IntKind.u64.wrap (x293000_1 + (ji24))) a0_1) = some r := by first | (rw [hji24] at H; exact H) | (simp only [hji24] at H ⊢; exact H)
          have hji24_ : (IntKind.u64.wrap (1 * 2 ^ min x4_2.toNat 64)) = ji24 := hji24
          have hji24z : x4_2 ≤ 64 → (IntKind.u64.wrap (1 * 2 ^ x4_2.toNat)) = ji24 := shl_small hji24
          have hji24u : (IntKind.u64.wrap (2 ^ min x4_2.toNat 64)) = ji24 := by have h_ := hji24_; rw [Int.one_mul] at h_; exact h_
          have hji24v : x4_2 ≤ 64 → (IntKind.u64.wrap (2 ^ x4_2.toNat)) = ji24 := fun hle_ => by have h_ := hji24z hle_; rw [Int.one_mul] at h_; exact h_
          have H' := Aside0.mk H
          clear H
          have hcz25_0 : wr.cell? ⟨gb292, 0, none⟩ = some (.int .u64 x293000_1) := (blk_cell BK292.out 0).trans rfl
          have hcz25_1 : wr.cell? ⟨gb292, 1, none⟩ = some (.int .u64 a0_1) := (blk_cell BK292.out 1).trans rfl
          have hfz25_0 := blk_frozen BK292.out 0
          have hfz25_1 := blk_frozen BK292.out 1
          go_wp2_with (first | ((with_reducible refine gate_builtin (b := .append) (xs := #[.tmp 33, .tmp 40]) rfl ?_); at_builtin; refine Kd.R_append k70 (w0 := w) w.heap.size rfl (.tmp 33) (.tmp 40) 29 70 (.agg #[(.int .u64 0), (.int .u64 0)]) 16 rfl Tryd.underlying29 info70 rfl (by decide) (by omega) u3 x3_1 (⟨x4_2, ji7⟩ : S70) [.int .u64 x4_2, .int .u64 ji7] (fun _ => True) (fun _ => False) rfl rfl ?aP (fun _ hk => hk.elim) ?aF ?aO ?aB ?aS ?aL ?_; (case aP => exact k70_mkM _ _ _ (⟨x4_2, ji7⟩ : S70)); (case aB => exact (by repeat (first | (with_reducible first | exact HB.out | apply below_alloc | apply pw_below_drewN | apply below_drew1 | refine below_set ?_ GE292.out) | exact HB.out))); (case aF => exact (fun _ _ => trivial)); (case aO => exact (by (with_reducible repeat (first | apply Kd.R_alloc | apply Kd.R_drewN | apply Kd.R_drew)); exact HO_3.out)); (case aS => exact (below_size (by repeat (first | (with_reducible first | exact HB.out | apply below_alloc | apply pw_below_drewN | apply below_drew1 | refine below_set ?_ GE292.out) | exact HB.out)))); (case aL => have := LMc22.out; omega); intro v297 w26 ho hb hg hat; rw [← Ny296.out] at ho; have n0_ := Aside0.mk (blk_grown (g := gb292) (o := .cells #[.int .u64 x293000_1, .int .u64 a0_1] 34 (0, 0)) (by (with_reducible repeat (first | refine blk_drewN ?_ _ | refine blk_drew ?_ | refine blk_alloc ?_ _)); exact BK292.out) hg (Kd.R_ne HO_3.out BK292.out (by decide))); have n1_ := Aside0.mk (hb); have n2_ := Aside0.mk (ho); clear BK292; clear HB; clear HO_3; have BK292 := n0_; have HB := n1_; have HO298 := n2_; clear n0_ n1_ n2_; clear ho hb hg hat; have hcz27_0 : w26.cell? ⟨gb292, 0, none⟩ = some (.int .u64 x293000_1) := (blk_cell BK292.out 0).trans rfl; have hcz27_1 : w26.cell? ⟨gb292, 1, none⟩ = some (.int .u64 a0_1) := (blk_cell BK292.out 1).trans rfl; have hfz27_0 := blk_frozen BK292.out 0; have hfz27_1 := blk_frozen BK292.out 1))
          go_roundg k2
          case measure => have := HK1.out; have := HK2.out; omega
          case rel => exact ⟨(y296), (IntKind.u64.wrap (x293000_1 + (ji24))), H', ⟨by have := HK1.out; have := HK2.out; omega⟩, ⟨by (with_reducible repeat (first | apply Kd.R_alloc | apply Kd.R_drewN | apply Kd.R_drew)); exact Kd.R_mono (Kd.R_far (p := ⟨gb292, 0, none⟩) (Kd.R_types HO298.out BK292.out (by decide)) (fun _ hk => hk.2) (.int .u64 (IntKind.u64.wrap (x293000_1 + (ji24))))) (fun _ hk => trivial)⟩, ⟨by (with_reducible repeat (first | refine blk_drewN ?_ _ | refine blk_drew ?_ | refine blk_alloc ?_ _)); refine blk_put (cs := #[.int .u64 x293000_1, .int .u64 a0_1]) ?_ 0 _ rfl; (with_reducible repeat (first | refine blk_drewN ?_ _ | refine blk_drew ?_ | refine blk_alloc ?_ _)); exact BK292.out⟩, ⟨by repeat (first | (with_reducible first | exact HB.out | apply below_alloc | apply pw_below_drewN | apply below_drew1 | refine below_set ?_ GE292.out) | exact HB.out)⟩⟩
         ·rw [if_neg c22] at H
          exact absurd H (by simp)
       ·rw [if_neg c6] at H
        exact absurd H (by simp)
      ·rw [if_neg c5] at H
       have c5b0 : decide (x4_2 < 63) = false := decide_eq_false c5
       clear c5
       by_cases c28 : 0 ≤ x4_2
       ·rw [if_pos c28] at H
        have c28b0 := eq_true c28
        have c28b1 : decide (0 ≤ x4_2) = true := decide_eq_true c28
        clear c28
        obtain ⟨ji29, hji29⟩ : ∃ j_ : Int, (shr .u64 x293000_1 x4_2) = j_ := ⟨_, rfl⟩
        replace H : (if x3_1.length < 8796093022208 then (spec_Nodes.l0 k2 (x3_1 ++ [(⟨x4_2, ji29⟩ : S70)]) (IntKind.u64.wrap (x293000_1 + (shl .u64 1 x4_2))) a0_1) else (none)) = some r := by first | (rw [hji29] at H; exact H) | (simp only [hji29] at H ⊢; exact H)
        have hji29_ : (x293000_1 / 2 ^ min x4_2.toNat 64) = ji29 := hji29
        have hji29z : x4_2 ≤ 64 → (x293000_1 / 2 ^ x4_2.toNat) = ji29 := shr_small hji29
        by_cases c30 : x3_1.length < 8796093022208
        ·rw [if_pos c30] at H
         have LMc30 := Aside0.mk c30
         clear c30
         obtain ⟨y299, hy299⟩ : ∃ y_ : List (S70), y_ = (x3_1 ++ [(⟨x4_2, ji29⟩ : S70)]) := ⟨_, rfl⟩
         replace H : (spec_Nodes.l0 k2 y299 (IntKind.u64.wrap (x293000_1 + (shl .u64 1 x4_2))) a0_1) = some r := by first | (rw [hy299]; with_reducible exact H) | (have H2_ := (Option.bind_some _ _).symm.trans H; rw [hy299]; with_reducible exact H2_) | (have H2_ := (Option.bind_some _ _).symm.trans H; with_reducible exact H2_) | with_reducible exact H | (rw [hy299]; exact H) | exact H
         have Ny299 := Aside0.mk hy299
         clear hy299
         have c31b0 := eq_true (of_decide_eq_true (by first | (with_reducible assumption) | assumption) : 0 ≤ x4_2)
         obtain ⟨ji32, hji32⟩ : ∃ j_ : Int, (shl .u64 1 x4_2) = j_ := ⟨_, rfl⟩
         replace H : (spec_Nodes.l0 k2 y299 (IntKind.u64.wrap (x293000_1 + (ji32))) a0_1) = some r := by first | (rw [hji32] at H; exact H) | (simp only [hji32] at H ⊢; exact H)
         have hji32_ : (IntKind.u64.wrap (1 * 2 ^ min x4_2.toNat 64)) = ji32 := hji32
         have hji32z : x4_2 ≤ 64 → (IntKind.u64.wrap (1 * 2 ^ x4_2.toNat)) = ji32 := shl_small hji32
         have hji32u : (IntKind.u64.wrap (2 ^ min x4_2.toNat 64)) = ji32 := by have h_ := hji32_; rw [Int.one_mul] at h_; exact h_
         have hji32v : x4_2 ≤ 64 → (IntKind.u64.wrap (2 ^ x4_2.toNat)) = ji32 := fun hle_ => by have h_ := hji32z hle_; rw [Int.one_mul] at h_; exact h_
         have H' := Aside0.mk H
         clear H
         have hcz33_0 : wr.cell? ⟨gb292, 0, none⟩ = some (.int .u64 x293000_1) := (blk_cell BK292.out 0).trans rfl
         have hcz33_1 : wr.cell? ⟨gb292, 1, none⟩ = some (.int .u64 a0_1) := (blk_cell BK292.out 1).trans rfl
         have hfz33_0 := blk_frozen BK292.out 0
         have hfz33_1 := blk_frozen BK292.out 1
         go_wp2_with (first | ((with_reducible refine gate_builtin (b := .append) (xs := #[.tmp 33, .tmp 40]) rfl ?_); at_builtin; refine Kd.R_append k70 (w0 := w) w.heap.size rfl (.tmp 33) (.tmp 40) 29 70 (.agg #[(.int .u64 0), (.int .u64 0)]) 16 rfl Tryd.underlying29 info70 rfl (by decide) (by omega) u3 x3_1 (⟨x4_2, ji29⟩ : S70) [.int .u64 x4_2, .int .u64 ji29] (fun _ => True) (fun _ => False) rfl rfl ?aP (fun _ hk => hk.elim) ?aF ?aO ?aB ?aS ?aL ?_; (case aP => exact k70_mkM _ _ _ (⟨x4_2, ji29⟩ : S70)); (case aB => exact (by repeat (first | (with_reducible first | exact HB.out | apply below_alloc | apply pw_below_drewN | apply below_drew1 | refine below_set ?_ GE292.out) | exact HB.out))); (case aF => exact (fun _ _ => trivial)); (case aO => exact (by (with_reducible repeat (first | apply Kd.R_alloc | apply Kd.R_drewN | apply Kd.R_drew)); exact HO_3.out)); (case aS => exact (below_size (by repeat (first | (with_reducible first | exact HB.out | apply below_alloc | apply pw_below_drewN | apply below_drew1 | refine below_set ?_ GE292.out) | exact HB.out)))); (case aL => have := LMc30.out; omega); intro v300 w34 ho hb hg hat; rw [← Ny299.out] at ho; have n0_ := Aside0.mk (blk_grown (g := gb292) (o := .cells #[.int .u64 x293000_1, .int .u64 a0_1] 34 (0, 0)) (by (with_reducible repeat (first | refine blk_drewN ?_ _ | refine blk_drew ?_ | refine blk_alloc ?_ _)); exact BK292.out) hg (Kd.R_ne HO_3.out BK292.out (by decide))); have n1_ := Aside0.mk (hb); have n2_ := Aside0.mk (ho); clear BK292; clear HB; clear HO_3; have BK292 := n0_; have HB := n1_; have HO301 := n2_; clear n0_ n1_ n2_; clear ho hb hg hat; have hcz35_0 : w34.cell? ⟨gb292, 0, none⟩ = some (.int .u64 x293000_1) := (blk_cell BK292.out 0).trans rfl; have hcz35_1 : w34.cell? ⟨gb292, 1, none⟩ = some (.int .u64 a0_1) := (blk_cell BK292.out 1).trans rfl; have hfz35_0 := blk_frozen BK292.out 0; have hfz35_1 := blk_frozen BK292.out 1))
         go_roundg k2
         case measure => have := HK1.out; have := HK2.out; omega
         case rel => exact ⟨(y299), (IntKind.u64.wrap (x293000_1 + (ji32))), H', ⟨by have := HK1.out; have := HK2.out; omega⟩, ⟨by (with_reducible repeat (first | apply Kd.R_alloc | apply Kd.R_drewN | apply Kd.R_drew)); exact Kd.R_mono (Kd.R_far (p := ⟨gb292, 0, none⟩) (Kd.R_types HO301.out BK292.out (by decide)) (fun _ hk => hk.2) (.int .u64 (IntKind.u64.wrap (x293000_1 + (ji32))))) (fun _ hk => trivial)⟩, ⟨by (with_reducible repeat (first | refine blk_drewN ?_ _ | refine blk_drew ?_ | refine blk_alloc ?_ _)); refine blk_put (cs := #[.int .u64 x293000_1, .int .u64 a0_1]) ?_ 0 _ rfl; (with_reducible repeat (first | refine blk_drewN ?_ _ | refine blk_drew ?_ | refine blk_alloc ?_ _)); exact BK292.out⟩, ⟨by repeat (first | (with_reducible first | exact HB.out | apply below_alloc | apply pw_below_drewN | apply below_drew1 | refine below_set ?_ GE292.out) | exact HB.out)⟩⟩
        ·rw [if_neg c30] at H
         exact absurd H (by simp)
       ·rw [if_neg c28] at H
        exact absurd H (by simp)
   ·rw [if_neg c3] at H
    have c3b0 : decide (x293000_1 < a0_1) = false := decide_eq_false c3
    clear c3
    obtain rfl := Option.some.inj H
    have hcz36_0 : wr.cell? ⟨gb292, 0, none⟩ = some (.int .u64 x293000_1) := (blk_cell BK292.out 0).trans rfl
    have hcz36_1 : wr.cell? ⟨gb292, 1, none⟩ = some (.int .u64 a0_1) := (blk_cell BK292.out 1).trans rfl
    have hfz36_0 := blk_frozen BK292.out 0
    have hfz36_1 := blk_frozen BK292.out 1
    go_wp2
    go_ret
    exact ⟨_, by first | rfl | (simp [errW_none, errW_some] <;> rfl) | (simp [*, errW_none, errW_some] <;> rfl), by (with_reducible repeat (first | apply Kd.R_alloc | apply Kd.R_drewN | apply Kd.R_drew)); exact HO_3.out, by repeat (first | (with_reducible first | exact HB.out | apply below_alloc | apply pw_below_drewN | apply below_drew1 | refine below_set ?_ GE292.out) | exact HB.out)⟩
def spec_NodeOf.l0 : Nat → Int → Int → Int → Int → Option (Int × Int)
 | 0, _, _, _, _ => none
 | k + 1, x303000, x303001, x305000, x305001 => if 0 ≤ x305000 then (if (shr .u64 (IntKind.u64.wrap (x303001 - x303000)) x305000) > 1 then (spec_NodeOf.l0 k x303000 x303001 (IntKind.u64.wrap (x305000 + 1)) x305001) else (some (x305000, shr .u64 x303000 x305000))) else (none)
def spec_NodeOf.f (k : Nat) (a0_0 : Int) (a0_1 : Int) : Option (Int × Int) := spec_NodeOf.l0 k a0_0 a0_1 0 0
theorem spec_NodeOf.mono_l : ∀ k, (∀ y0 y1 y2 y3, LeO (spec_NodeOf.l0 k y0 y1 y2 y3) (spec_NodeOf.l0 (k + 1) y0 y1 y2 y3))
 | 0 => fun _ _ _ _ r h => by simp [spec_NodeOf.l0] at h
 | k + 1 => by
  have ih0 := spec_NodeOf.mono_l k
  ·intro y0 y1 y2 y3
   unfold spec_NodeOf.l0
   repeat' first
   | (with_reducible exact ih0 _ _ _ _)
   | (with_reducible exact LeO.refl _)
   | (with_reducible exact LeO.none _)
   | (with_reducible refine LeO.ite ?_ ?_)
   | (with_reducible refine LeO.bind ?_ (fun _ => ?_))
   | exact ih0 _ _ _ _
   | exact LeO.none _
   | refine LeO.ite ?_ ?_
   | refine LeO.bind ?_ (fun _ => ?_)
theorem spec_NodeOf.mono : ∀ a0 a1 k, LeO (spec_NodeOf.f k a0 a1) (spec_NodeOf.f (k + 1) a0 a1) := by
 intro a0 a1 k
 have ih0 := spec_NodeOf.mono_l k
 unfold spec_NodeOf.f
 repeat' first
   | (with_reducible exact ih0 _ _ _ _)
   | (with_reducible exact LeO.refl _)
   | (with_reducible exact LeO.none _)
   | (with_reducible refine LeO.ite ?_ ?_)
   | (with_reducible refine LeO.bind ?_ (fun _ => ?_))
   | exact ih0 _ _ _ _
   | exact LeO.none _
   | refine LeO.ite ?_ ?_
   | refine LeO.bind ?_ (fun _ => ?_)
set_option maxHeartbeats 8000000 in
set_option maxRecDepth 100000 in
theorem spec_NodeOf.calls (k : Nat) (a0_0 : Int) (a0_1 : Int) (r1 : Int) (r2 : Int) (w : World) (h : spec_NodeOf.f k a0_0 a0_1 = some (r1, r2)) :
  Calls Tryd.prog 128 #[.agg #[.int .u64 a0_0, .int .u64 a0_1]] w fun e w' => e = .returned (.agg #[.int .u64 r1, .int .u64 r2]) ∧ Below w.heap.size w w' := by
 have hu34 := Tryd.underlying34
 have hu70 := Tryd.underlying70
 have HB := Aside0.mk (Below.refl w.heap.size w)
 have H : (spec_NodeOf.l0 k a0_0 a0_1 0 0) = some (r1, r2) := h
 clear h
 have H' := Aside0.mk H
 clear H
 go_enter Tryd.func128, Tryd.ntmps128
 go_wp2_with (first | ((with_reducible refine gate_dst (N := 1) rfl ?_); refine box_event ?hg (N := 1) ?hd (cs := #[.int .u64 a0_0, .int .u64 a0_1]) (t := 34) ?hr ?_; (case hd => rfl); (case hg => rfl); (case hr => first | (go_simp; done) | (go_simp; rfl)); intro gb302 hg w2 hbox hb; have n0_ := Aside0.mk (below_step (by repeat (first | (with_reducible first | exact HB.out | apply below_alloc | apply pw_below_drewN | apply below_drew1) | exact HB.out)) hb); have n1_ := Aside0.mk (hbox); have n2_ := Aside0.mk ((by rw [hg]; exact (below_size (by repeat (first | (with_reducible first | exact HB.out | apply below_alloc | apply pw_below_drewN | apply below_drew1) | exact HB.out))) : w.heap.size ≤ gb302)); have n3_ := Aside0.mk ((by rw [hg]; exact (below_size (by repeat (first | (with_reducible first | exact HB.out | apply below_alloc | apply pw_below_drewN | apply below_drew1) | exact HB.out))) : w.heap.size ≤ gb302)); clear HB; have HB := n0_; have BK302 := n1_; have GW302 := n2_; have GE302 := n3_; clear n0_ n1_ n2_ n3_; clear hb hbox hg) | ((with_reducible refine gate_dst (N := 2) rfl ?_); refine box_event ?hg (N := 2) ?hd (cs := #[.int .u64 0, .int .u64 0]) (t := 70) ?hr ?_; (case hd => rfl); (case hg => rfl); (case hr => first | (go_simp; done) | (go_simp; rfl)); intro gb303 hg w3 hbox hb; have n0_ := Aside0.mk (blk_below (g := gb302) (o := .cells #[.int .u64 a0_0, .int .u64 a0_1] 34 (0, 0)) (by (with_reducible repeat (first | refine blk_drewN ?_ _ | refine blk_drew ?_ | refine blk_alloc ?_ _)); exact BK302.out) hb); have n1_ := Aside0.mk (below_step (by repeat (first | (with_reducible first | exact HB.out | apply below_alloc | apply pw_below_drewN | apply below_drew1 | refine below_set ?_ GE302.out) | exact HB.out)) hb); have n2_ := Aside0.mk (hbox); have n3_ := Aside0.mk ((by rw [hg]; exact (below_size (by repeat (first | (with_reducible first | exact HB.out | apply below_alloc | apply pw_below_drewN | apply below_drew1 | refine below_set ?_ GE302.out) | exact HB.out))) : w.heap.size ≤ gb303)); have n4_ := Aside0.mk ((by rw [hg]; exact (below_size (by repeat (first | (with_reducible first | exact HB.out | apply below_alloc | apply pw_below_drewN | apply below_drew1 | refine below_set ?_ GE302.out) | exact HB.out))) : w.heap.size ≤ gb303)); have n5_ := Aside0.mk ((by rw [hg]; exact Nat.ne_of_lt (blk_lt (g := gb302) (o := .cells #[.int .u64 a0_0, .int .u64 a0_1] 34 (0, 0)) (by (with_reducible repeat (first | refine blk_drewN ?_ _ | refine blk_drew ?_ | refine blk_alloc ?_ _)); exact BK302.out)) : gb302 ≠ gb303)); have n6_ := Aside0.mk ((by rw [hg]; exact Nat.ne_of_gt (blk_lt (g := gb302) (o := .cells #[.int .u64 a0_0, .int .u64 a0_1] 34 (0, 0)) (by (with_reducible repeat (first | refine blk_drewN ?_ _ | refine blk_drew ?_ | refine blk_alloc ?_ _)); exact BK302.out)) : gb303 ≠ gb302)); clear BK302; clear HB; have BK302 := n0_; have HB := n1_; have BK303 := n2_; have GW303 := n3_; have GE303 := n4_; have NB302_303 := n5_; have NB303_302 := n6_; clear n0_ n1_ n2_ n3_ n4_ n5_ n6_; clear hb hbox hg) | ((with_reducible refine gate_dst (N := 3) rfl ?_); refine box_event ?hg (N := 3) ?hd (cs := #[.int .u64 0, .int .u64 0]) (t := 70) ?hr ?_; (case hd => rfl); (case hg => rfl); (case hr => first | (go_simp; done) | (go_simp; rfl)); intro gb304 hg w4 hbox hb; have n0_ := Aside0.mk (blk_below (g := gb302) (o := .cells #[.int .u64 a0_0, .int .u64 a0_1] 34 (0, 0)) (by (with_reducible repeat (first | refine blk_drewN ?_ _ | refine blk_drew ?_ | refine blk_alloc ?_ _)); exact BK302.out) hb); have n1_ := Aside0.mk (blk_below (g := gb303) (o := .cells #[.int .u64 0, .int .u64 0] 70 (0, 0)) (by (with_reducible repeat (first | refine blk_drewN ?_ _ | refine blk_drew ?_ | refine blk_alloc ?_ _)); exact BK303.out) hb); have n2_ := Aside0.mk (below_step (by repeat (first | (with_reducible first | exact HB.out | apply below_alloc | apply pw_below_drewN | apply below_drew1 | refine below_set ?_ GE302.out | refine below_set ?_ GE303.out) | exact HB.out)) hb); have n3_ := Aside0.mk (hbox); have n4_ := Aside0.mk ((by rw [hg]; exact (below_size (by repeat (first | (with_reducible first | exact HB.out | apply below_alloc | apply pw_below_drewN | apply below_drew1 | refine below_set ?_ GE302.out | refine below_set ?_ GE303.out) | exact HB.out))) : w.heap.size ≤ gb304)); have n5_ := Aside0.mk ((by rw [hg]; exact (below_size (by repeat (first | (with_reducible first | exact HB.out | apply below_alloc | apply pw_below_drewN | apply below_drew1 | refine below_set ?_ GE302.out | refine below_set ?_ GE303.out) | exact HB.out))) : w.heap.size ≤ gb304)); have n6_ := Aside0.mk ((by rw [hg]; exact Nat.ne_of_lt (blk_lt (g := gb302) (o := .cells #[.int .u64 a0_0, .int .u64 a0_1] 34 (0, 0)) (by (with_reducible repeat (first | refine blk_drewN ?_ _ | refine blk_drew ?_ | refine blk_alloc ?_ _)); exact BK302.out)) : gb302 ≠ gb304)); have n7_ := Aside0.mk ((by rw [hg]; exact Nat.ne_of_gt (blk_lt (g := gb302) (o := .cells #[.int .u64 a0_0, .int .u64 a0_1] 34 (0, 0)) (by (with_reducible repeat (first | refine blk_drewN ?_ _ | refine blk_drew ?_ | refine blk_alloc ?_ _)); exact BK302.out)) : gb304 ≠ gb302)); have n8_ := Aside0.mk ((by rw [hg]; exact Nat.ne_of_lt (blk_lt (g := gb303) (o := .cells #[.int .u64 0, .int .u64 0] 70 (0, 0)) (by (with_reducible repeat (first | refine blk_drewN ?_ _ | refine blk_drew ?_ | refine blk_alloc ?_ _)); exact BK303.out)) : gb303 ≠ gb304)); have n9_ := Aside0.mk ((by rw [hg]; exact Nat.ne_of_gt (blk_lt (g := gb303) (o := .cells #[.int .u64 0, .int .u64 0] 70 (0, 0)) (by (with_reducible repeat (first | refine blk_drewN ?_ _ | refine blk_drew ?_ | refine blk_alloc ?_ _)); exact BK303.out)) : gb304 ≠ gb303)); clear BK302; clear BK303; clear HB; have BK302 := n0_; have BK303 := n1_; have HB := n2_; have BK304 := n3_; have GW304 := n4_; have GE304 := n5_; have NB302_304 := n6_; have NB304_302 := n7_; have NB303_304 := n8_; have NB304_303 := n9_; clear n0_ n1_ n2_ n3_ n4_ n5_ n6_ n7_ n8_ n9_; clear hb hbox hg; have hnb5 := NB304_302.out; have hnc5 := NB302_304.out; have hnb6 := NB304_303.out; have hnc6 := NB303_304.out; have hcz7_0 : w4.cell? ⟨gb304, 0, none⟩ = some (.int .u64 0) := (blk_cell BK304.out 0).trans rfl; have hcz7_1 : w4.cell? ⟨gb304, 1, none⟩ = some (.int .u64 0) := (blk_cell BK304.out 1).trans rfl; have hfz7_0 := blk_frozen BK304.out 0; have hfz7_1 := blk_frozen BK304.out 1))
 try simp only [Act.put, List.setIfInBounds_toArray, List.set_cons_zero, List.set_cons_succ]
 go_loopg [] k (fun kq w' => ∃ (x305000_1 : Int), Aside0 (spec_NodeOf.l0 kq a0_0 a0_1 x305000_1 0 = some (r1, r2)) ∧ Aside0 (kq ≤ k) ∧ Aside0 (w'.heap[gb302]? = some (.cells #[.int .u64 a0_0, .int .u64 a0_1] 34 (0, 0))) ∧ Aside0 (w'.heap[gb303]? = some (.cells #[.int .u64 0, .int .u64 0] 70 (0, 0))) ∧ Aside0 (w'.heap[gb304]? = some (.cells #[.int .u64 x305000_1, .int .u64 0] 70 (0, 0))) ∧ Aside0 (Below w.heap.size w w'))
 case atStart => exact ⟨(0), H', ⟨Nat.le_refl _⟩, ⟨by (with_reducible repeat (first | refine blk_drewN ?_ _ | refine blk_drew ?_ | refine blk_alloc ?_ _)); refine blk_far ?_ NB302_304.out _; (with_reducible repeat (first | refine blk_drewN ?_ _ | refine blk_drew ?_ | refine blk_alloc ?_ _)); refine blk_far ?_ NB302_304.out _; (with_reducible repeat (first | refine blk_drewN ?_ _ | refine blk_drew ?_ | refine blk_alloc ?_ _)); exact BK302.out⟩, ⟨by (with_reducible repeat (first | refine blk_drewN ?_ _ | refine blk_drew ?_ | refine blk_alloc ?_ _)); refine blk_far ?_ NB303_304.out _; (with_reducible repeat (first | refine blk_drewN ?_ _ | refine blk_drew ?_ | refine blk_alloc ?_ _)); refine blk_far ?_ NB303_304.out _; (with_reducible repeat (first | refine blk_drewN ?_ _ | refine blk_drew ?_ | refine blk_alloc ?_ _)); exact BK303.out⟩, ⟨by (with_reducible repeat (first | refine blk_drewN ?_ _ | refine blk_drew ?_ | refine blk_alloc ?_ _)); refine blk_put (cs := #[.int .u64 0, .int .u64 0]) ?_ 1 _ rfl; (with_reducible repeat (first | refine blk_drewN ?_ _ | refine blk_drew ?_ | refine blk_alloc ?_ _)); refine blk_put (cs := #[.int .u64 0, .int .u64 0]) ?_ 0 _ rfl; (with_reducible repeat (first | refine blk_drewN ?_ _ | refine blk_drew ?_ | refine blk_alloc ?_ _)); exact BK304.out⟩, ⟨by repeat (first | (with_reducible first | exact HB.out | apply below_alloc | apply pw_below_drewN | apply below_drew1 | refine below_set ?_ GE302.out | refine below_set ?_ GE303.out | refine below_set ?_ GE304.out) | exact HB.out)⟩⟩
 case round =>
  clear H'
  try clear c1
  try clear p2
  try clear c5
  try clear c6
  try clear hcz7_0
  try clear hcz7_1
  try clear hfz7_0
  try clear hfz7_1
  obtain ⟨x305000_1, HA, HK1, BK302, BK303, BK304, HB⟩ := hrel
  cases gk with
  | zero => exact absurd HA.out (by simp [spec_NodeOf.l0])
  | succ k1 =>
   have H := HA.out
   clear HA
   simp only [spec_NodeOf.l0] at H
   by_cases c8 : 0 ≤ x305000_1
   ·rw [if_pos c8] at H
    have c8b0 := eq_true c8
    have c8b1 : decide (0 ≤ x305000_1) = true := decide_eq_true c8
    clear c8
    obtain ⟨ji9, hji9⟩ : ∃ j_ : Int, (shr .u64 (IntKind.u64.wrap (a0_1 - a0_0)) x305000_1) = j_ := ⟨_, rfl⟩
    replace H : (if (ji9) > 1 then (spec_NodeOf.l0 k1 a0_0 a0_1 (IntKind.u64.wrap (x305000_1 + 1)) 0) else (some (x305000_1, shr .u64 a0_0 x305000_1))) = some (r1, r2) := by first | (rw [hji9] at H; exact H) | (simp only [hji9] at H ⊢; exact H)
    have hji9_ : ((IntKind.u64.wrap (a0_1 - a0_0)) / 2 ^ min x305000_1.toNat 64) = ji9 := hji9
    have hji9z : x305000_1 ≤ 64 → ((IntKind.u64.wrap (a0_1 - a0_0)) / 2 ^ x305000_1.toNat) = ji9 := shr_small hji9
    by_cases c10 : (ji9) > 1
    ·rw [if_pos c10] at H
     have c10b0 : decide (1 < (ji9)) = true := decide_eq_true c10
     clear c10
     have H' := Aside0.mk H
     clear H
     have hnb11 := NB302_303.out
     have hnc11 := NB303_302.out
     have hnb12 := NB302_304.out
     have hnc12 := NB304_302.out
     have hcz13_0 : wr.cell? ⟨gb302, 0, none⟩ = some (.int .u64 a0_0) := (blk_cell BK302.out 0).trans rfl
     have hcz13_1 : wr.cell? ⟨gb302, 1, none⟩ = some (.int .u64 a0_1) := (blk_cell BK302.out 1).trans rfl
     have hfz13_0 := blk_frozen BK302.out 0
     have hfz13_1 := blk_frozen BK302.out 1
     have hnb14 := NB304_303.out
     have hnc14 := NB303_304.out
     have hcz15_0 : wr.cell? ⟨gb304, 0, none⟩ = some (.int .u64 x305000_1) := (blk_cell BK304.out 0).trans rfl
     have hcz15_1 : wr.cell? ⟨gb304, 1, none⟩ = some (.int .u64 0) := (blk_cell BK304.out 1).trans rfl
     have hfz15_0 := blk_frozen BK304.out 0
     have hfz15_1 := blk_frozen BK304.out 1
     go_wp2
     go_roundg k1
     case measure => have := HK1.out; omega
     case rel => exact ⟨(IntKind.u64.wrap (x305000_1 + 1)), H', ⟨by have := HK1.out; omega⟩, ⟨by (with_reducible repeat (first | refine blk_drewN ?_ _ | refine blk_drew ?_ | refine blk_alloc ?_ _)); refine blk_far ?_ NB302_304.out _; (with_reducible repeat (first | refine blk_drewN ?_ _ | refine blk_drew ?_ | refine blk_alloc ?_ _)); exact BK302.out⟩, ⟨by (with_reducible repeat (first | refine blk_drewN ?_ _ | refine blk_drew ?_ | refine blk_alloc ?_ _)); refine blk_far ?_ NB303_304.out _; (with_reducible repeat (first | refine blk_drewN ?_ _ | refine blk_drew ?_ | refine blk_alloc ?_ _)); exact BK303.out⟩, ⟨by (with_reducible repeat (first | refine blk_drewN ?_ _ | refine blk_drew ?_ | refine blk_alloc ?_ _)); refine blk_put (cs := #[.int .u64 x305000_1, .int .u64 0]) ?_ 0 _ rfl; (with_reducible repeat (first | refine blk_drewN ?_ _ | refine blk_drew ?_ | refine blk_alloc ?_ _)); exact BK304.out⟩, ⟨by repeat (first | (with_reducible first | exact HB.out | apply below_alloc | apply pw_below_drewN | apply below_drew1 | refine below_set ?_ GE302.out | refine below_set ?_ GE303.out | refine below_set ?_ GE304.out) | exact HB.out)⟩⟩
    ·rw [if_neg c10] at H
     have c10b0 : decide (1 < (ji9)) = false := decide_eq_false c10
     clear c10
     have c16b0 := eq_true (of_decide_eq_true (by first | (with_reducible assumption) | assumption) : 0 ≤ x305000_1)
     obtain ⟨ji17, hji17⟩ : ∃ j_ : Int, (shr .u64 a0_0 x305000_1) = j_ := ⟨_, rfl⟩
     replace H : (some (x305000_1, ji17)) = some (r1, r2) := by first | (rw [hji17] at H; exact H) | (simp only [hji17] at H ⊢; exact H)
     have hji17_ : (a0_0 / 2 ^ min x305000_1.toNat 64) = ji17 := hji17
     have hji17z : x305000_1 ≤ 64 → (a0_0 / 2 ^ x305000_1.toNat) = ji17 := shr_small hji17
     simp only [Option.some.injEq, Prod.mk.injEq] at H
     obtain ⟨rfl, rfl⟩ := H
     have hnb18 := NB302_303.out
     have hnc18 := NB303_302.out
     have hnb19 := NB302_304.out
     have hnc19 := NB304_302.out
     have hcz20_0 : wr.cell? ⟨gb302, 0, none⟩ = some (.int .u64 a0_0) := (blk_cell BK302.out 0).trans rfl
     have hcz20_1 : wr.cell? ⟨gb302, 1, none⟩ = some (.int .u64 a0_1) := (blk_cell BK302.out 1).trans rfl
     have hfz20_0 := blk_frozen BK302.out 0
     have hfz20_1 := blk_frozen BK302.out 1
     have hnb21 := NB304_303.out
     have hnc21 := NB303_304.out
     have hcz22_0 : wr.cell? ⟨gb304, 0, none⟩ = some (.int .u64 x305000_1) := (blk_cell BK304.out 0).trans rfl
     have hcz22_1 : wr.cell? ⟨gb304, 1, none⟩ = some (.int .u64 0) := (blk_cell BK304.out 1).trans rfl
     have hfz22_0 := blk_frozen BK304.out 0
     have hfz22_1 := blk_frozen BK304.out 1
     have hcz23_0 : wr.cell? ⟨gb303, 0, none⟩ = some (.int .u64 0) := (blk_cell BK303.out 0).trans rfl
     have hcz23_1 : wr.cell? ⟨gb303, 1, none⟩ = some (.int .u64 0) := (blk_cell BK303.out 1).trans rfl
     have hfz23_0 := blk_frozen BK303.out 0
     have hfz23_1 := blk_frozen BK303.out 1
     go_wp2
     refine bodyPost_ret (results_cell_row rfl _ _ gb303 70 #[.int .u64 x305000_1, .int .u64 ji17] (0, 0) _ rfl (by (with_reducible repeat (first | refine blk_drewN ?_ _ | refine blk_drew ?_ | refine blk_alloc ?_ _)); refine blk_put (cs := #[.int .u64 x305000_1, .int .u64 0]) ?_ 1 _ rfl; (with_reducible repeat (first | refine blk_drewN ?_ _ | refine blk_drew ?_ | refine blk_alloc ?_ _)); refine blk_put (cs := #[.int .u64 0, .int .u64 0]) ?_ 0 _ rfl; (with_reducible repeat (first | refine blk_drewN ?_ _ | refine blk_drew ?_ | refine blk_alloc ?_ _)); refine blk_far ?_ NB303_304.out _; (with_reducible repeat (first | refine blk_drewN ?_ _ | refine blk_drew ?_ | refine blk_alloc ?_ _)); exact BK303.out) Tryd.underlying70 rfl (by kernel_rfl)) rfl ?_
     exact ⟨by first | rfl | (simp [errW_none, errW_some] <;> rfl) | (simp only [← hji9, ← hji17]; first | rfl | (simp [errW_none, errW_some] <;> rfl)) | (simp [*, errW_none, errW_some] <;> rfl), by repeat (first | (with_reducible first | exact HB.out | apply below_alloc | apply pw_below_drewN | apply below_drew1 | refine below_set ?_ GE302.out | refine below_set ?_ GE303.out | refine below_set ?_ GE304.out) | exact HB.out)⟩
   ·rw [if_neg c8] at H
    exact absurd H (by simp)
end Go.Proofs.YtijldedhcjkhiaaDoor.I
