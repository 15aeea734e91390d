import Derived.Test.YtijldedhcjkhiaaDoorSI0
import Derived.Test.YtijldedhcjkhiaaDoorSI8
import Derived.Test.YtijldedhcjkhiaaDoorSI9
namespace Go.Proofs.YtijldedhcjkhiaaDoor.I
open Go.RowKit Go.Proofs.YtijldedhcjkhiaaDoorW.PrintWords Go.Proofs.YtijldedhcjkhiaaDoorW.PrintLast Go.Proofs.YtijldedhcjkhiaaDoorW.PrintMore
attribute [local go_sem] max2_int min2_int max_two min_two max_three min_three max_four min_four   -- for this text's walks alone
set_option linter.unusedVariables false
set_option linter.unusedSimpArgs false
def spec_fork.l0 : Nat → Int → Int → Int → Option (Int × Int)
 | 0, _, _, _ => none
 | k + 1, x1, x328000, x328001 => if 0 ≤ x328000 then (if (x328001 / 2) = ((shr .u64 x1 x328000) / 2) then (some (x328000, shr .u64 x1 x328000)) else (spec_fork.l0 k x1 (IntKind.u64.wrap (x328000 + 1)) (x328001 / 2))) else (none)
def spec_fork.f (k : Nat) (a0_0 : Int) (a0_1 : Int) (a1 : Int) : Option (Int × Int) := spec_fork.l0 k a1 a0_0 a0_1
theorem spec_fork.mono_l : ∀ k, (∀ y0 y1 y2, LeO (spec_fork.l0 k y0 y1 y2) (spec_fork.l0 (k + 1) y0 y1 y2))
 | 0 => fun _ _ _ r h => by simp [spec_fork.l0] at h
 | k + 1 => by
  have ih0 := spec_fork.mono_l k
  ·intro y0 y1 y2
   unfold spec_fork.l0
   repeat' first
   | (with_reducible exact ih0 _ _ _)
   | (with_reducible exact LeO.refl _)
   | (with_reducible exact LeO.none _)
   | (with_reducible refine LeO.ite ?_ ?_)
   | (with_reducible refine LeO.bind ?_ (fun _ => ?_))
   | exact ih0 _ _ _
   | exact LeO.none _
   | refine LeO.ite ?_ ?_
   | refine LeO.bind ?_ (fun _ => ?_)
theorem spec_fork.mono : ∀ a0 a1 a2 k, LeO (spec_fork.f k a0 a1 a2) (spec_fork.f (k + 1) a0 a1 a2) := by
 intro a0 a1 a2 k
 have ih0 := spec_fork.mono_l k
 unfold spec_fork.f
 repeat' first
   | (with_reducible exact ih0 _ _ _)
   | (with_reducible exact LeO.refl _)
   | (with_reducible exact LeO.none _)
   | (with_reducible refine LeO.ite ?_ ?_)
   | (with_reducible refine LeO.bind ?_ (fun _ => ?_))
   | exact ih0 _ _ _
   | exact LeO.none _
   | refine LeO.ite ?_ ?_
   | refine LeO.bind ?_ (fun _ => ?_)
set_option maxHeartbeats 8000000 in
set_option maxRecDepth 100000 in
theorem spec_fork.calls (k : Nat) (a0_0 : Int) (a0_1 : Int) (a1 : Int) (r1 : Int) (r2 : Int) (w : World) (h : spec_fork.f k a0_0 a0_1 a1 = some (r1, r2)) :
  Calls Tryd.prog 97 #[.agg #[.int .u64 a0_0, .int .u64 a0_1], .int .u64 a1] w fun e w' => e = .returned (.agg #[.int .u64 r1, .int .u64 r2]) ∧ Below w.heap.size w w' := by
 have hu70 := Tryd.underlying70
 have HB := Aside0.mk (Below.refl w.heap.size w)
 have H : (spec_fork.l0 k a1 a0_0 a0_1) = some (r1, r2) := h
 clear h
 have H' := Aside0.mk H
 clear H
 go_enter Tryd.func97, Tryd.ntmps97
 go_wp2_with (first | ((with_reducible refine gate_dst (N := 2) rfl ?_); refine box_event ?hg (N := 2) ?hd (cs := #[.int .u64 a0_0, .int .u64 a0_1]) (t := 70) ?hr ?_; (case hd => rfl); (case hg => rfl); (case hr => first | (go_simp; done) | (go_simp; rfl)); intro gb327 hg w3 hbox hb; have n0_ := Aside0.mk (below_step (by repeat (first | (with_reducible first | exact HB.out | apply below_alloc | apply pw_below_drewN | apply below_drew1) | exact HB.out)) hb); have n1_ := Aside0.mk (hbox); have n2_ := Aside0.mk ((by rw [hg]; exact (below_size (by repeat (first | (with_reducible first | exact HB.out | apply below_alloc | apply pw_below_drewN | apply below_drew1) | exact HB.out))) : w.heap.size ≤ gb327)); have n3_ := Aside0.mk ((by rw [hg]; exact (below_size (by repeat (first | (with_reducible first | exact HB.out | apply below_alloc | apply pw_below_drewN | apply below_drew1) | exact HB.out))) : w.heap.size ≤ gb327)); clear HB; have HB := n0_; have BK327 := n1_; have GW327 := n2_; have GE327 := n3_; clear n0_ n1_ n2_ n3_; clear hb hbox hg) | ((with_reducible refine gate_dst (N := 4) rfl ?_); refine box_event ?hg (N := 4) ?hd (cs := #[.int .u64 0, .int .u64 0]) (t := 70) ?hr ?_; (case hd => rfl); (case hg => rfl); (case hr => first | (go_simp; done) | (go_simp; rfl)); intro gb328 hg w4 hbox hb; have n0_ := Aside0.mk (blk_below (g := gb327) (o := .cells #[.int .u64 a0_0, .int .u64 a0_1] 70 (0, 0)) (by (with_reducible repeat (first | refine blk_drewN ?_ _ | refine blk_drew ?_ | refine blk_alloc ?_ _)); exact BK327.out) hb); have n1_ := Aside0.mk (below_step (by repeat (first | (with_reducible first | exact HB.out | apply below_alloc | apply pw_below_drewN | apply below_drew1 | refine below_set ?_ GE327.out) | exact HB.out)) hb); have n2_ := Aside0.mk (hbox); have n3_ := Aside0.mk ((by rw [hg]; exact (below_size (by repeat (first | (with_reducible first | exact HB.out | apply below_alloc | apply pw_below_drewN | apply below_drew1 | refine below_set ?_ GE327.out) | exact HB.out))) : w.heap.size ≤ gb328)); have n4_ := Aside0.mk ((by rw [hg]; exact (below_size (by repeat (first | (with_reducible first | exact HB.out | apply below_alloc | apply pw_below_drewN | apply below_drew1 | refine below_set ?_ GE327.out) | exact HB.out))) : w.heap.size ≤ gb328)); have n5_ := Aside0.mk ((by rw [hg]; exact Nat.ne_of_lt (blk_lt (g := gb327) (o := .cells #[.int .u64 a0_0, .int .u64 a0_1] 70 (0, 0)) (by (with_reducible repeat (first | refine blk_drewN ?_ _ | refine blk_drew ?_ | refine blk_alloc ?_ _)); exact BK327.out)) : gb327 ≠ gb328)); have n6_ := Aside0.mk ((by rw [hg]; exact Nat.ne_of_gt (blk_lt (g := gb327) (o := .cells #[.int .u64 a0_0, .int .u64 a0_1] 70 (0, 0)) (by (with_reducible repeat (first | refine blk_drewN ?_ _ | refine blk_drew ?_ | refine blk_alloc ?_ _)); exact BK327.out)) : gb328 ≠ gb327)); clear BK327; clear HB; have BK327 := n0_; have HB := n1_; have BK328 := n2_; have GW328 := n3_; have GE328 := n4_; have NB327_328 := n5_; have NB328_327 := n6_; clear n0_ n1_ n2_ n3_ n4_ n5_ n6_; clear hb hbox hg))
 try simp only [Act.put, List.setIfInBounds_toArray, List.set_cons_zero, List.set_cons_succ]
 go_loopg [] k (fun kq w' => ∃ (x328000_1 : Int) (x328001_1 : Int), Aside0 (spec_fork.l0 kq a1 x328000_1 x328001_1 = some (r1, r2)) ∧ Aside0 (kq ≤ k) ∧ Aside0 (w'.heap[gb327]? = some (.cells #[.int .u64 x328000_1, .int .u64 x328001_1] 70 (0, 0))) ∧ Aside0 (w'.heap[gb328]? = some (.cells #[.int .u64 0, .int .u64 0] 70 (0, 0))) ∧ Aside0 (Below w.heap.size w w'))
 case atStart => exact ⟨(a0_0), (a0_1), H', ⟨Nat.le_refl _⟩, ⟨by (with_reducible repeat (first | refine blk_drewN ?_ _ | refine blk_drew ?_ | refine blk_alloc ?_ _)); exact BK327.out⟩, ⟨by (with_reducible repeat (first | refine blk_drewN ?_ _ | refine blk_drew ?_ | refine blk_alloc ?_ _)); exact BK328.out⟩, ⟨by repeat (first | (with_reducible first | exact HB.out | apply below_alloc | apply pw_below_drewN | apply below_drew1 | refine below_set ?_ GE327.out | refine below_set ?_ GE328.out) | exact HB.out)⟩⟩
 case round =>
  clear H'
  try clear p2
  obtain ⟨x328000_1, x328001_1, HA, HK1, BK327, BK328, HB⟩ := hrel
  cases gk with
  | zero => exact absurd HA.out (by simp [spec_fork.l0])
  | succ k1 =>
   have H := HA.out
   clear HA
   simp only [spec_fork.l0] at H
   by_cases c5 : 0 ≤ x328000_1
   ·rw [if_pos c5] at H
    have c5b0 := eq_true c5
    have c5b1 : decide (0 ≤ x328000_1) = true := decide_eq_true c5
    clear c5
    obtain ⟨ji6, hji6⟩ : ∃ j_ : Int, (shr .u64 a1 x328000_1) = j_ := ⟨_, rfl⟩
    replace H : (if (x328001_1 / 2) = ((ji6) / 2) then (some (x328000_1, ji6)) else (spec_fork.l0 k1 a1 (IntKind.u64.wrap (x328000_1 + 1)) (x328001_1 / 2))) = some (r1, r2) := by first | (rw [hji6] at H; exact H) | (simp only [hji6] at H ⊢; exact H)
    have hji6_ : (a1 / 2 ^ min x328000_1.toNat 64) = ji6 := hji6
    have hji6z : x328000_1 ≤ 64 → (a1 / 2 ^ x328000_1.toNat) = ji6 := shr_small hji6
    by_cases c7 : (x328001_1 / 2) = ((ji6) / 2)
    ·rw [if_pos c7] at H
     have c7b0 : ((x328001_1 / 2) == ((ji6) / 2)) = true := beq_iff_eq.mpr c7
     have c7b1 : ((x328001_1 / 2) != ((ji6) / 2)) = false := bne_eq_false_iff_eq.mpr c7
     clear c7
     have c8b0 := eq_true (of_decide_eq_true (by first | (with_reducible assumption) | assumption) : 0 ≤ x328000_1)
     simp only [Option.some.injEq, Prod.mk.injEq] at H
     obtain ⟨rfl, rfl⟩ := H
     have hnb9 := NB327_328.out
     have hnc9 := NB328_327.out
     have hcz10_0 : wr.cell? ⟨gb327, 0, none⟩ = some (.int .u64 x328000_1) := (blk_cell BK327.out 0).trans rfl
     have hcz10_1 : wr.cell? ⟨gb327, 1, none⟩ = some (.int .u64 x328001_1) := (blk_cell BK327.out 1).trans rfl
     have hfz10_0 := blk_frozen BK327.out 0
     have hfz10_1 := blk_frozen BK327.out 1
     have hcz11_0 : wr.cell? ⟨gb328, 0, none⟩ = some (.int .u64 0) := (blk_cell BK328.out 0).trans rfl
     have hcz11_1 : wr.cell? ⟨gb328, 1, none⟩ = some (.int .u64 0) := (blk_cell BK328.out 1).trans rfl
     have hfz11_0 := blk_frozen BK328.out 0
     have hfz11_1 := blk_frozen BK328.out 1
     go_wp2
     refine bodyPost_ret (results_cell_row rfl _ _ gb328 70 #[.int .u64 x328000_1, .int .u64 ji6] (0, 0) _ rfl (by (with_reducible repeat (first | refine blk_drewN ?_ _ | refine blk_drew ?_ | refine blk_alloc ?_ _)); refine blk_put (cs := #[.int .u64 x328000_1, .int .u64 0]) ?_ 1 _ rfl; (with_reducible repeat (first | refine blk_drewN ?_ _ | refine blk_drew ?_ | refine blk_alloc ?_ _)); refine blk_put (cs := #[.int .u64 0, .int .u64 0]) ?_ 0 _ rfl; (with_reducible repeat (first | refine blk_drewN ?_ _ | refine blk_drew ?_ | refine blk_alloc ?_ _)); exact BK328.out) Tryd.underlying70 rfl (by kernel_rfl)) rfl ?_
     exact ⟨by first | rfl | (simp [errW_none, errW_some] <;> rfl) | (simp only [← hji6]; first | rfl | (simp [errW_none, errW_some] <;> rfl)) | (simp [*, errW_none, errW_some] <;> rfl), by repeat (first | (with_reducible first | exact HB.out | apply below_alloc | apply pw_below_drewN | apply below_drew1 | refine below_set ?_ GE327.out | refine below_set ?_ GE328.out) | exact HB.out)⟩
    ·rw [if_neg c7] at H
     have c7b0 : ((x328001_1 / 2) == ((ji6) / 2)) = false := beq_eq_false_iff_ne.mpr c7
     have c7b1 : ((x328001_1 / 2) != ((ji6) / 2)) = true := bne_iff_ne.mpr c7
     have H' := Aside0.mk H
     clear H
     have hnb12 := NB327_328.out
     have hnc12 := NB328_327.out
     have hcz13_0 : wr.cell? ⟨gb327, 0, none⟩ = some (.int .u64 x328000_1) := (blk_cell BK327.out 0).trans rfl
     have hcz13_1 : wr.cell? ⟨gb327, 1, none⟩ = some (.int .u64 x328001_1) := (blk_cell BK327.out 1).trans rfl
     have hfz13_0 := blk_frozen BK327.out 0
     have hfz13_1 := blk_frozen BK327.out 1
     go_wp2
     go_roundg k1
     case measure => have := HK1.out; omega
     case rel => exact ⟨(IntKind.u64.wrap (x328000_1 + 1)), (x328001_1 / 2), H', ⟨by have := HK1.out; omega⟩, ⟨by (with_reducible repeat (first | refine blk_drewN ?_ _ | refine blk_drew ?_ | refine blk_alloc ?_ _)); refine blk_put (cs := #[.int .u64 (IntKind.u64.wrap (x328000_1 + 1)), .int .u64 x328001_1]) ?_ 1 _ rfl; (with_reducible repeat (first | refine blk_drewN ?_ _ | refine blk_drew ?_ | refine blk_alloc ?_ _)); refine blk_put (cs := #[.int .u64 x328000_1, .int .u64 x328001_1]) ?_ 0 _ rfl; (with_reducible repeat (first | refine blk_drewN ?_ _ | refine blk_drew ?_ | refine blk_alloc ?_ _)); exact BK327.out⟩, ⟨by (with_reducible repeat (first | refine blk_drewN ?_ _ | refine blk_drew ?_ | refine blk_alloc ?_ _)); refine blk_far ?_ NB328_327.out _; (with_reducible repeat (first | refine blk_drewN ?_ _ | refine blk_drew ?_ | refine blk_alloc ?_ _)); refine blk_far ?_ NB328_327.out _; (with_reducible repeat (first | refine blk_drewN ?_ _ | refine blk_drew ?_ | refine blk_alloc ?_ _)); exact BK328.out⟩, ⟨by repeat (first | (with_reducible first | exact HB.out | apply below_alloc | apply pw_below_drewN | apply below_drew1 | refine below_set ?_ GE327.out | refine below_set ?_ GE328.out) | exact HB.out)⟩⟩
   ·rw [if_neg c5] at H
    exact absurd H (by simp)
def spec_InclusionProof.f (k : Nat) (a0 : Int) (a1 : Int) : Option ((List (S70)) × Int × Int × Int × Int) := (spec_PathParts.f k a0 a1).bind fun t330 => ((spec_proofOf.f k a0 (IntKind.u64.wrap (a0 + 1)) t330).bind fun bt333 => ((spec_fork.f k 0 a0 a1).bind fun bt341 => (some (bt333.1, bt341.1, bt341.2, bt333.2.2.2.1, bt333.2.2.2.2))))
theorem spec_InclusionProof.mono : ∀ a0 a1 k, LeO (spec_InclusionProof.f k a0 a1) (spec_InclusionProof.f (k + 1) a0 a1) := by
 intro a0 a1 k
 unfold spec_InclusionProof.f
 repeat' first
   | (with_reducible exact spec_PathParts.mono _ _ _)
   | (with_reducible exact spec_fork.mono _ _ _ _)
   | (with_reducible exact spec_proofOf.mono _ _ _ _)
   | (with_reducible exact LeO.refl _)
   | (with_reducible exact LeO.none _)
   | (with_reducible refine LeO.ite ?_ ?_)
   | (with_reducible refine LeO.bind ?_ (fun _ => ?_))
   | exact spec_PathParts.mono _ _ _
   | exact spec_fork.mono _ _ _ _
   | exact spec_proofOf.mono _ _ _ _
   | exact LeO.none _
   | refine LeO.ite ?_ ?_
   | refine LeO.bind ?_ (fun _ => ?_)
set_option maxHeartbeats 8000000 in
set_option maxRecDepth 100000 in
theorem spec_InclusionProof.calls (k : Nat) (a0 : Int) (a1 : Int) (r1 : List (S70)) (r2 : Int) (r3 : Int) (r4 : Int) (r5 : Int) (w : World) (h : spec_InclusionProof.f k a0 a1 = some (r1, r2, r3, r4, r5)) :
  Calls Tryd.prog 44 #[.int .u64 a0, .int .u64 a1] w fun e w' => ∃ v0_ : Value, e = .returned (.agg #[v0_, .int .u64 r2, .int .u64 r3, .int .i64 r4, .int .i64 r5]) ∧ Kd.R k70 70 w' w.heap.size (fun _ => True) v0_ r1 ∧ Below w.heap.size w w' := by
 have hu72 := Tryd.underlying72
 have hu34 := Tryd.underlying34
 have hu70 := Tryd.underlying70
 have HB := Aside0.mk (Below.refl w.heap.size w)
 have H : ((spec_PathParts.f k a0 a1).bind fun t330 => ((spec_proofOf.f k a0 (IntKind.u64.wrap (a0 + 1)) t330).bind fun bt333 => ((spec_fork.f k 0 a0 a1).bind fun bt341 => (some (bt333.1, bt341.1, bt341.2, bt333.2.2.2.1, bt333.2.2.2.2))))) = some (r1, r2, r3, r4, r5) := h
 clear h
 replace H := Option.bind_eq_some_iff.mp H
 obtain ⟨t330, A30, H⟩ := H
 replace H : ((spec_proofOf.f k a0 (IntKind.u64.wrap (a0 + 1)) t330).bind fun bt333 => ((spec_fork.f k 0 a0 a1).bind fun bt341 => (some (bt333.1, bt341.1, bt341.2, bt333.2.2.2.1, bt333.2.2.2.2)))) = some (r1, r2, r3, r4, r5) := H
 have A3 := Aside0.mk A30
 clear A30
 replace H := Option.bind_eq_some_iff.mp H
 obtain ⟨⟨t333, t336, t337, t338, t339⟩, A40, H⟩ := H
 replace H : ((spec_fork.f k 0 a0 a1).bind fun bt341 => (some (t333, bt341.1, bt341.2, t338, t339))) = some (r1, r2, r3, r4, r5) := H
 have A4 := Aside0.mk A40
 clear A40
 replace H := Option.bind_eq_some_iff.mp H
 obtain ⟨⟨t341, t342⟩, A50, H⟩ := H
 replace H : (some (t333, t341, t342, t338, t339)) = some (r1, r2, r3, r4, r5) := H
 have A5 := Aside0.mk A50
 clear A50
 simp only [Option.some.injEq, Prod.mk.injEq] at H
 obtain ⟨rfl, rfl, rfl, rfl, rfl⟩ := H
 go_enter Tryd.func44, Tryd.ntmps44
 go_wp2_with (first | ((with_reducible refine gate_dst (N := 4) rfl ?_); refine box_event ?hg (N := 4) ?hd (cs := #[.slice none 0 0, .int .u64 0, .int .u64 0, .int .i64 0, .int .i64 0]) (t := 72) ?hr ?_; (case hd => rfl); (case hg => rfl); (case hr => first | (go_simp; done) | (go_simp; rfl)); intro gb329 hg w6 hbox hb; have n0_ := Aside0.mk (below_step (by repeat (first | (with_reducible first | exact HB.out | apply below_alloc | apply pw_below_drewN | apply below_drew1) | exact HB.out)) hb); have n1_ := Aside0.mk (hbox); have n2_ := Aside0.mk ((by rw [hg]; exact (below_size (by repeat (first | (with_reducible first | exact HB.out | apply below_alloc | apply pw_below_drewN | apply below_drew1) | exact HB.out))) : w.heap.size ≤ gb329)); have n3_ := Aside0.mk ((by rw [hg]; exact (below_size (by repeat (first | (with_reducible first | exact HB.out | apply below_alloc | apply pw_below_drewN | apply below_drew1) | exact HB.out))) : w.heap.size ≤ gb329)); clear HB; have HB := n0_; have BK329 := n1_; have GW329 := n2_; have GE329 := n3_; clear n0_ n1_ n2_ n3_; clear hb hbox hg) | ((with_reducible refine gate_callee (f := 49) rfl ?_); refine goesL_ (some 12) rfl rfl Tryd.func49 (by kernel_rfl) rfl #[.int .u64 a0, .int .u64 a1] rfl (by (try simp only [List.map_toArray, List.map_cons, List.map_nil]); first | done | rfl | (simp only [List.length_drop, List.length_take]; rfl)) ?_; (with_reducible refine (spec_PathParts.calls k a0 a1 t330 _ A3.out).mono ?_); rintro e w7 ⟨v331, rfl, ho0, hb⟩; refine ⟨_, rfl, ?_⟩; have n0_ := Aside0.mk (Kd.R_lower ho0 (below_size (by repeat (first | (with_reducible first | exact HB.out | apply below_alloc | apply pw_below_drewN | apply below_drew1 | refine below_set ?_ GE329.out) | exact HB.out)))); have n1_ := Aside0.mk (blk_below (g := gb329) (o := .cells #[.slice none 0 0, .int .u64 0, .int .u64 0, .int .i64 0, .int .i64 0] 72 (0, 0)) (by (with_reducible repeat (first | refine blk_drewN ?_ _ | refine blk_drew ?_ | refine blk_alloc ?_ _)); exact BK329.out) hb); have n2_ := Aside0.mk (below_step (by repeat (first | (with_reducible first | exact HB.out | apply below_alloc | apply pw_below_drewN | apply below_drew1 | refine below_set ?_ GE329.out) | exact HB.out)) hb); clear BK329; clear HB; have HO332 := n0_; have BK329 := n1_; have HB := n2_; clear n0_ n1_ n2_; (try clear hb); (try clear hb2); (try clear hk); (try clear hi); (try clear ho0); obtain ⟨Ao8, co8, eo8⟩ := Kd.R_slice HO332.out; subst eo8) | ((with_reducible refine gate_callee (f := 96) rfl ?_); refine goesL_ (some 13) rfl rfl Tryd.func96 (by kernel_rfl) rfl #[.agg #[.int .u64 a0, .int .u64 (IntKind.u64.wrap (a0 + 1))], .slice Ao8 t330.length co8] rfl (by (try simp only [List.map_toArray, List.map_cons, List.map_nil]); first | done | rfl | (simp only [List.length_drop, List.length_take]; rfl)) ?_; (with_reducible refine (spec_proofOf.calls k a0 (IntKind.u64.wrap (a0 + 1)) _ _ t330 t333 t336 t337 t338 t339 _ ?side1 ?side2 A4.out).mono ?_); (case side1 => repeat (first | exact (Kd.R_reads' HO332.out).2.2 | (with_reducible refine Kd.C_alloc ?_ _) | (with_reducible refine Kd.C_drewN ?_ _) | (with_reducible refine Kd.C_drew ?_))); (case side2 => exact (Kd.R_reads' HO332.out).2.1); rintro e w9 ⟨v334, rfl, ho0, hb⟩; refine ⟨_, rfl, ?_⟩; have n0_ := Aside0.mk (Kd.R_below (by (with_reducible repeat (first | apply Kd.R_alloc | apply Kd.R_drewN | apply Kd.R_drew)); exact HO332.out) hb); have n1_ := Aside0.mk (Kd.R_lower ho0 (below_size (by repeat (first | (with_reducible first | exact HB.out | apply below_alloc | apply pw_below_drewN | apply below_drew1 | refine below_set ?_ GE329.out) | exact HB.out)))); have n2_ := Aside0.mk (blk_below (g := gb329) (o := .cells #[.slice none 0 0, .int .u64 0, .int .u64 0, .int .i64 0, .int .i64 0] 72 (0, 0)) (by (with_reducible repeat (first | refine blk_drewN ?_ _ | refine blk_drew ?_ | refine blk_alloc ?_ _)); exact BK329.out) hb); have n3_ := Aside0.mk (below_step (by repeat (first | (with_reducible first | exact HB.out | apply below_alloc | apply pw_below_drewN | apply below_drew1 | refine below_set ?_ GE329.out) | exact HB.out)) hb); clear HO332; clear BK329; clear HB; have HO332 := n0_; have HO335 := n1_; have BK329 := n2_; have HB := n3_; clear n0_ n1_ n2_ n3_; (try clear hb); (try clear hb2); (try clear hk); (try clear hi); (try clear ho0)) | ((with_reducible refine gate_dst (N := 5) rfl ?_); refine box_event ?hg (N := 5) ?hd (cs := #[.slice none 0 0, .int .u64 0, .int .u64 0, .int .i64 0, .int .i64 0]) (t := 72) ?hr ?_; (case hd => rfl); (case hg => rfl); (case hr => first | (go_simp; done) | (go_simp; rfl)); intro gb340 hg w10 hbox hb; have n0_ := Aside0.mk (Kd.R_below (by (with_reducible repeat (first | apply Kd.R_alloc | apply Kd.R_drewN | apply Kd.R_drew)); exact HO332.out) hb); have n1_ := Aside0.mk (Kd.R_below (by (with_reducible repeat (first | apply Kd.R_alloc | apply Kd.R_drewN | apply Kd.R_drew)); exact HO335.out) hb); have n2_ := Aside0.mk (blk_below (g := gb329) (o := .cells #[.slice none 0 0, .int .u64 0, .int .u64 0, .int .i64 0, .int .i64 0] 72 (0, 0)) (by (with_reducible repeat (first | refine blk_drewN ?_ _ | refine blk_drew ?_ | refine blk_alloc ?_ _)); exact BK329.out) hb); have n3_ := Aside0.mk (below_step (by repeat (first | (with_reducible first | exact HB.out | apply below_alloc | apply pw_below_drewN | apply below_drew1 | refine below_set ?_ GE329.out) | exact HB.out)) hb); have n4_ := Aside0.mk (hbox); have n5_ := Aside0.mk ((by rw [hg]; exact (below_size (by repeat (first | (with_reducible first | exact HB.out | apply below_alloc | apply pw_below_drewN | apply below_drew1 | refine below_set ?_ GE329.out) | exact HB.out))) : w.heap.size ≤ gb340)); have n6_ := Aside0.mk ((by rw [hg]; exact (below_size (by repeat (first | (with_reducible first | exact HB.out | apply below_alloc | apply pw_below_drewN | apply below_drew1 | refine below_set ?_ GE329.out) | exact HB.out))) : w.heap.size ≤ gb340)); have n7_ := Aside0.mk ((by rw [hg]; exact Nat.ne_of_lt (blk_lt (g := gb329) (o := .cells #[.slice none 0 0, .int .u64 0, .int .u64 0, .int .i64 0, .int .i64 0] 72 (0, 0)) (by (with_reducible repeat (first | refine blk_drewN ?_ _ | refine blk_drew ?_ | refine blk_alloc ?_ _)); exact BK329.out)) : gb329 ≠ gb340)); have n8_ := Aside0.mk ((by rw [hg]; exact Nat.ne_of_gt (blk_lt (g := gb329) (o := .cells #[.slice none 0 0, .int .u64 0, .int .u64 0, .int .i64 0, .int .i64 0] 72 (0, 0)) (by (with_reducible repeat (first | refine blk_drewN ?_ _ | refine blk_drew ?_ | refine blk_alloc ?_ _)); exact BK329.out)) : gb340 ≠ gb329)); clear HO332; clear HO335; clear BK329; clear HB; have HO332 := n0_; have HO335 := n1_; have BK329 := n2_; have HB := n3_; have BK340 := n4_; have GW340 := n5_; have GE340 := n6_; have NB329_340 := n7_; have NB340_329 := n8_; clear n0_ n1_ n2_ n3_ n4_ n5_ n6_ n7_ n8_; clear hb hbox hg; obtain ⟨Ao11, co11, eo11⟩ := Kd.R_slice HO335.out; subst eo11; have hnb12 := NB340_329.out; have hnc12 := NB329_340.out; have hcz13_0 : w10.cell? ⟨gb340, 0, none⟩ = some (.slice none 0 0) := (blk_cell BK340.out 0).trans rfl; have hcz13_1 : w10.cell? ⟨gb340, 1, none⟩ = some (.int .u64 0) := (blk_cell BK340.out 1).trans rfl; have hcz13_2 : w10.cell? ⟨gb340, 2, none⟩ = some (.int .u64 0) := (blk_cell BK340.out 2).trans rfl; have hcz13_3 : w10.cell? ⟨gb340, 3, none⟩ = some (.int .i64 0) := (blk_cell BK340.out 3).trans rfl; have hcz13_4 : w10.cell? ⟨gb340, 4, none⟩ = some (.int .i64 0) := (blk_cell BK340.out 4).trans rfl; have hfz13_0 := blk_frozen BK340.out 0; have hfz13_1 := blk_frozen BK340.out 1; have hfz13_2 := blk_frozen BK340.out 2; have hfz13_3 := blk_frozen BK340.out 3; have hfz13_4 := blk_frozen BK340.out 4) | ((with_reducible refine gate_callee (f := 97) rfl ?_); refine goesL_ (some 17) rfl rfl Tryd.func97 (by kernel_rfl) rfl #[.agg #[.int .u64 0, .int .u64 a0], .int .u64 a1] rfl (by (try simp only [List.map_toArray, List.map_cons, List.map_nil]); first | done | rfl | (simp only [List.length_drop, List.length_take]; rfl)) ?_; (with_reducible refine (spec_fork.calls k 0 a0 a1 t341 t342 _ A5.out).mono ?_); rintro e w14 ⟨rfl, hb⟩; refine ⟨_, rfl, ?_⟩; have n0_ := Aside0.mk (Kd.R_below (by (with_reducible repeat (first | apply Kd.R_alloc | apply Kd.R_drewN | apply Kd.R_drew)); exact (Kd.R_mono (Kd.R_far (p := ⟨gb340, 4, none⟩) (Kd.R_far (p := ⟨gb340, 3, none⟩) (Kd.R_far (p := ⟨gb340, 2, none⟩) (Kd.R_far (p := ⟨gb340, 1, none⟩) (Kd.R_far (p := ⟨gb340, 0, none⟩) (Kd.R_types HO332.out BK340.out (by decide)) (fun _ hk => hk.2) (.slice Ao11 t333.length co11)) (fun _ hk => hk.2) (.int .u64 t336)) (fun _ hk => hk.2) (.int .u64 t337)) (fun _ hk => hk.2) (.int .i64 t338)) (fun _ hk => hk.2) (.int .i64 t339)) (fun _ h_ => h_.1))) hb); have n1_ := Aside0.mk (Kd.R_below (by (with_reducible repeat (first | apply Kd.R_alloc | apply Kd.R_drewN | apply Kd.R_drew)); exact (Kd.R_mono (Kd.R_far (p := ⟨gb340, 4, none⟩) (Kd.R_far (p := ⟨gb340, 3, none⟩) (Kd.R_far (p := ⟨gb340, 2, none⟩) (Kd.R_far (p := ⟨gb340, 1, none⟩) (Kd.R_far (p := ⟨gb340, 0, none⟩) (Kd.R_types HO335.out BK340.out (by decide)) (fun _ hk => hk.2) (.slice Ao11 t333.length co11)) (fun _ hk => hk.2) (.int .u64 t336)) (fun _ hk => hk.2) (.int .u64 t337)) (fun _ hk => hk.2) (.int .i64 t338)) (fun _ hk => hk.2) (.int .i64 t339)) (fun _ h_ => h_.1))) hb); have n2_ := Aside0.mk (blk_below (g := gb329) (o := .cells #[.slice none 0 0, .int .u64 0, .int .u64 0, .int .i64 0, .int .i64 0] 72 (0, 0)) (by (with_reducible repeat (first | refine blk_drewN ?_ _ | refine blk_drew ?_ | refine blk_alloc ?_ _)); refine blk_far ?_ NB329_340.out _; (with_reducible repeat (first | refine blk_drewN ?_ _ | refine blk_drew ?_ | refine blk_alloc ?_ _)); refine blk_far ?_ NB329_340.out _; (with_reducible repeat (first | refine blk_drewN ?_ _ | refine blk_drew ?_ | refine blk_alloc ?_ _)); refine blk_far ?_ NB329_340.out _; (with_reducible repeat (first | refine blk_drewN ?_ _ | refine blk_drew ?_ | refine blk_alloc ?_ _)); refine blk_far ?_ NB329_340.out _; (with_reducible repeat (first | refine blk_drewN ?_ _ | refine blk_drew ?_ | refine blk_alloc ?_ _)); refine blk_far ?_ NB329_340.out _; (with_reducible repeat (first | refine blk_drewN ?_ _ | refine blk_drew ?_ | refine blk_alloc ?_ _)); exact BK329.out) hb); have n3_ := Aside0.mk (blk_below (g := gb340) (o := .cells #[.slice Ao11 t333.length co11, .int .u64 t336, .int .u64 t337, .int .i64 t338, .int .i64 t339] 72 (0, 0)) (by (with_reducible repeat (first | refine blk_drewN ?_ _ | refine blk_drew ?_ | refine blk_alloc ?_ _)); refine blk_put (cs := #[.slice Ao11 t333.length co11, .int .u64 t336, .int .u64 t337, .int .i64 t338, .int .i64 0]) ?_ 4 _ rfl; (with_reducible repeat (first | refine blk_drewN ?_ _ | refine blk_drew ?_ | refine blk_alloc ?_ _)); refine blk_put (cs := #[.slice Ao11 t333.length co11, .int .u64 t336, .int .u64 t337, .int .i64 0, .int .i64 0]) ?_ 3 _ rfl; (with_reducible repeat (first | refine blk_drewN ?_ _ | refine blk_drew ?_ | refine blk_alloc ?_ _)); refine blk_put (cs := #[.slice Ao11 t333.length co11, .int .u64 t336, .int .u64 0, .int .i64 0, .int .i64 0]) ?_ 2 _ rfl; (with_reducible repeat (first | refine blk_drewN ?_ _ | refine blk_drew ?_ | refine blk_alloc ?_ _)); refine blk_put (cs := #[.slice Ao11 t333.length co11, .int .u64 0, .int .u64 0, .int .i64 0, .int .i64 0]) ?_ 1 _ rfl; (with_reducible repeat (first | refine blk_drewN ?_ _ | refine blk_drew ?_ | refine blk_alloc ?_ _)); refine blk_put (cs := #[.slice none 0 0, .int .u64 0, .int .u64 0, .int .i64 0, .int .i64 0]) ?_ 0 _ rfl; (with_reducible repeat (first | refine blk_drewN ?_ _ | refine blk_drew ?_ | refine blk_alloc ?_ _)); exact BK340.out) hb); have n4_ := Aside0.mk (below_step (by repeat (first | (with_reducible first | exact HB.out | apply below_alloc | apply pw_below_drewN | apply below_drew1 | refine below_set ?_ GE329.out | refine below_set ?_ GE340.out) | exact HB.out)) hb); clear HO332; clear HO335; clear BK329; clear BK340; clear HB; have HO332 := n0_; have HO335 := n1_; have BK329 := n2_; have BK340 := n3_; have HB := n4_; clear n0_ n1_ n2_ n3_ n4_; (try clear hb); (try clear hb2); (try clear hk); (try clear hi); have hcz15_0 : w14.cell? ⟨gb340, 0, none⟩ = some (.slice Ao11 t333.length co11) := (blk_cell BK340.out 0).trans rfl; have hcz15_1 : w14.cell? ⟨gb340, 1, none⟩ = some (.int .u64 t336) := (blk_cell BK340.out 1).trans rfl; have hcz15_2 : w14.cell? ⟨gb340, 2, none⟩ = some (.int .u64 t337) := (blk_cell BK340.out 2).trans rfl; have hcz15_3 : w14.cell? ⟨gb340, 3, none⟩ = some (.int .i64 t338) := (blk_cell BK340.out 3).trans rfl; have hcz15_4 : w14.cell? ⟨gb340, 4, none⟩ = some (.int .i64 t339) := (blk_cell BK340.out 4).trans rfl; have hfz15_0 := blk_frozen BK340.out 0; have hfz15_1 := blk_frozen BK340.out 1; have hfz15_2 := blk_frozen BK340.out 2; have hfz15_3 := blk_frozen BK340.out 3; have hfz15_4 := blk_frozen BK340.out 4; have hcz16_0 : w14.cell? ⟨gb329, 0, none⟩ = some (.slice none 0 0) := (blk_cell BK329.out 0).trans rfl; have hcz16_1 : w14.cell? ⟨gb329, 1, none⟩ = some (.int .u64 0) := (blk_cell BK329.out 1).trans rfl; have hcz16_2 : w14.cell? ⟨gb329, 2, none⟩ = some (.int .u64 0) := (blk_cell BK329.out 2).trans rfl; have hcz16_3 : w14.cell? ⟨gb329, 3, none⟩ = some (.int .i64 0) := (blk_cell BK329.out 3).trans rfl; have hcz16_4 : w14.cell? ⟨gb329, 4, none⟩ = some (.int .i64 0) := (blk_cell BK329.out 4).trans rfl; have hfz16_0 := blk_frozen BK329.out 0; have hfz16_1 := blk_frozen BK329.out 1; have hfz16_2 := blk_frozen BK329.out 2; have hfz16_3 := blk_frozen BK329.out 3; have hfz16_4 := blk_frozen BK329.out 4))
 refine bodyPost_ret (results_cell_row rfl _ _ gb329 72 #[.slice Ao11 t333.length co11, .int .u64 t341, .int .u64 t342, .int .i64 t338, .int .i64 t339] (0, 0) _ rfl (by (with_reducible repeat (first | refine blk_drewN ?_ _ | refine blk_drew ?_ | refine blk_alloc ?_ _)); refine blk_put (cs := #[.slice Ao11 t333.length co11, .int .u64 t341, .int .u64 t342, .int .i64 t338, .int .i64 0]) ?_ 4 _ rfl; (with_reducible repeat (first | refine blk_drewN ?_ _ | refine blk_drew ?_ | refine blk_alloc ?_ _)); refine blk_put (cs := #[.slice Ao11 t333.length co11, .int .u64 t341, .int .u64 t342, .int .i64 0, .int .i64 0]) ?_ 3 _ rfl; (with_reducible repeat (first | refine blk_drewN ?_ _ | refine blk_drew ?_ | refine blk_alloc ?_ _)); refine blk_put (cs := #[.slice Ao11 t333.length co11, .int .u64 t341, .int .u64 0, .int .i64 0, .int .i64 0]) ?_ 2 _ rfl; (with_reducible repeat (first | refine blk_drewN ?_ _ | refine blk_drew ?_ | refine blk_alloc ?_ _)); refine blk_put (cs := #[.slice Ao11 t333.length co11, .int .u64 0, .int .u64 0, .int .i64 0, .int .i64 0]) ?_ 1 _ rfl; (with_reducible repeat (first | refine blk_drewN ?_ _ | refine blk_drew ?_ | refine blk_alloc ?_ _)); refine blk_put (cs := #[.slice none 0 0, .int .u64 0, .int .u64 0, .int .i64 0, .int .i64 0]) ?_ 0 _ rfl; (with_reducible repeat (first | refine blk_drewN ?_ _ | refine blk_drew ?_ | refine blk_alloc ?_ _)); refine blk_far ?_ NB329_340.out _; (with_reducible repeat (first | refine blk_drewN ?_ _ | refine blk_drew ?_ | refine blk_alloc ?_ _)); refine blk_far ?_ NB329_340.out _; (with_reducible repeat (first | refine blk_drewN ?_ _ | refine blk_drew ?_ | refine blk_alloc ?_ _)); exact BK329.out) Tryd.underlying72 rfl (by kernel_rfl)) rfl ?_
 exact ⟨_, by first | rfl | (simp [errW_none, errW_some] <;> rfl) | (simp [*, errW_none, errW_some] <;> rfl), by (with_reducible repeat (first | apply Kd.R_alloc | apply Kd.R_drewN | apply Kd.R_drew)); exact Kd.R_mono (Kd.R_far (p := ⟨gb329, 4, none⟩) (Kd.R_far (p := ⟨gb329, 3, none⟩) (Kd.R_far (p := ⟨gb329, 2, none⟩) (Kd.R_far (p := ⟨gb329, 1, none⟩) (Kd.R_far (p := ⟨gb329, 0, none⟩) (Kd.R_far (p := ⟨gb340, 2, none⟩) (Kd.R_far (p := ⟨gb340, 1, none⟩) (Kd.R_types (Kd.R_types HO335.out BK340.out (by decide)) BK329.out (by decide)) (fun _ hk => hk.1.2) (.int .u64 t341)) (fun _ hk => hk.1.2) (.int .u64 t342)) (fun _ hk => hk.2) (.slice Ao11 t333.length co11)) (fun _ hk => hk.2) (.int .u64 t341)) (fun _ hk => hk.2) (.int .u64 t342)) (fun _ hk => hk.2) (.int .i64 t338)) (fun _ hk => hk.2) (.int .i64 t339)) (fun _ hk => trivial), by repeat (first | (with_reducible first | exact HB.out | apply below_alloc | apply pw_below_drewN | apply below_drew1 | refine below_set ?_ GE329.out | refine below_set ?_ GE340.out) | exact HB.out)⟩
def spec_Terms.f (a0_0 : Int) (a0_1 : Int) (a0_2 : Int) (a0_3 : Int) (a0_4 : Int) (a0_5 : Int) : Option (Bool) := some (a0_0 != 1)
set_option maxHeartbeats 8000000 in
set_option maxRecDepth 100000 in
theorem spec_Terms.calls (a0_0 : Int) (a0_1 : Int) (a0_2 : Int) (a0_3 : Int) (a0_4 : Int) (a0_5 : Int) (r : Bool) (w : World) (h : spec_Terms.f a0_0 a0_1 a0_2 a0_3 a0_4 a0_5 = some r) :
  Calls Tryd.prog 77 #[.agg #[.int .i64 a0_0, .int .i64 a0_1, .int .i64 a0_2, .int .u64 a0_3, .int .u64 a0_4, .int .u64 a0_5]] w fun e w' => e = .returned (.bool r) ∧ Below w.heap.size w w' := by
 have hu37 := Tryd.underlying37
 have HB := Aside0.mk (Below.refl w.heap.size w)
 have H : (some (a0_0 != 1)) = some r := h
 clear h
 obtain rfl := Option.some.inj H
 go_enter Tryd.func77, Tryd.ntmps77
 go_wp2_with (first | ((with_reducible refine gate_dst (N := 1) rfl ?_); refine box_event ?hg (N := 1) ?hd (cs := #[.int .i64 a0_0, .int .i64 a0_1, .int .i64 a0_2, .int .u64 a0_3, .int .u64 a0_4, .int .u64 a0_5]) (t := 37) ?hr ?_; (case hd => rfl); (case hg => rfl); (case hr => first | (go_simp; done) | (go_simp; rfl)); intro gb343 hg w2 hbox hb; have n0_ := Aside0.mk (below_step (by repeat (first | (with_reducible first | exact HB.out | apply below_alloc | apply pw_below_drewN | apply below_drew1) | exact HB.out)) hb); have n1_ := Aside0.mk (hbox); have n2_ := Aside0.mk ((by rw [hg]; exact (below_size (by repeat (first | (with_reducible first | exact HB.out | apply below_alloc | apply pw_below_drewN | apply below_drew1) | exact HB.out))) : w.heap.size ≤ gb343)); have n3_ := Aside0.mk ((by rw [hg]; exact (below_size (by repeat (first | (with_reducible first | exact HB.out | apply below_alloc | apply pw_below_drewN | apply below_drew1) | exact HB.out))) : w.heap.size ≤ gb343)); clear HB; have HB := n0_; have BK343 := n1_; have GW343 := n2_; have GE343 := n3_; clear n0_ n1_ n2_ n3_; clear hb hbox hg; have hcz3_0 : w2.cell? ⟨gb343, 0, none⟩ = some (.int .i64 a0_0) := (blk_cell BK343.out 0).trans rfl; have hcz3_1 : w2.cell? ⟨gb343, 1, none⟩ = some (.int .i64 a0_1) := (blk_cell BK343.out 1).trans rfl; have hcz3_2 : w2.cell? ⟨gb343, 2, none⟩ = some (.int .i64 a0_2) := (blk_cell BK343.out 2).trans rfl; have hcz3_3 : w2.cell? ⟨gb343, 3, none⟩ = some (.int .u64 a0_3) := (blk_cell BK343.out 3).trans rfl; have hcz3_4 : w2.cell? ⟨gb343, 4, none⟩ = some (.int .u64 a0_4) := (blk_cell BK343.out 4).trans rfl; have hcz3_5 : w2.cell? ⟨gb343, 5, none⟩ = some (.int .u64 a0_5) := (blk_cell BK343.out 5).trans rfl; have hfz3_0 := blk_frozen BK343.out 0; have hfz3_1 := blk_frozen BK343.out 1; have hfz3_2 := blk_frozen BK343.out 2; have hfz3_3 := blk_frozen BK343.out 3; have hfz3_4 := blk_frozen BK343.out 4; have hfz3_5 := blk_frozen BK343.out 5))
 go_ret
 exact ⟨by first | rfl | (simp [errW_none, errW_some] <;> rfl) | (simp [*, errW_none, errW_some] <;> rfl), by repeat (first | (with_reducible first | exact HB.out | apply below_alloc | apply pw_below_drewN | apply below_drew1 | refine below_set ?_ GE343.out) | exact HB.out)⟩
mutual
def spec_word.l0 : Nat → Int → List Int → Int → Int → Int → Int → Int → Int → Int → Int → Option (List Int)
 | 0, _, _, _, _, _, _, _, _, _, _ => none
 | k + 1, x1, x12, x13, x14, x345000, x345001, x345002, x345003, x345004, x345005 => if x14 < x13 then (if 0 ≤ x14 then (if x14 < (x12.length : Int) then (spec_word.l0 k (IntKind.u64.wrap ((Go.bits .xor .u64 x1 (IntKind.u64.wrap (rd x12 x14))) * 1099511628211)) x12 x13 (wrap64 (x14 + 1)) x345000 x345001 x345002 x345003 x345004 x345005) else (none)) else (none)) else (if x345002 < 1 then (spec_word.j1 k x1 x345002 true) else (spec_word.j1 k x1 x345002 (decide (x345002 > 8))))
def spec_word.j1 : Nat → Int → Int → Bool → Option (List Int)
 | 0, _, _, _ => none
 | k + 1, x1, x9, x31 => if x31 = true then (spec_word.j2 k x1 8) else (spec_word.j2 k x1 x9)
def spec_word.j2 : Nat → Int → Int → Option (List Int)
 | 0, _, _ => none
 | k + 1, x1, x9 => spec_word.l1 k x1 ([] : List Int) (wrap64 (x9 - 1))
def spec_word.l1 : Nat → Int → List Int → Int → Option (List Int)
 | 0, _, _, _ => none
 | k + 1, x1, x10, x11 => if x11 ≥ 0 then (if 0 ≤ (wrap64 (8 * x11)) then (if x10.length < 140737488355328 then (spec_word.l1 k x1 (x10 ++ [(shr .u64 x1 (wrap64 (8 * x11))) % 256]) (wrap64 (x11 - 1))) else (none)) else (none)) else (some x10)
end
def spec_word.f (k : Nat) (a0_0 : Int) (a0_1 : Int) (a0_2 : Int) (a0_3 : Int) (a0_4 : Int) (a0_5 : Int) (a1 : Int) (l2 : List Int) : Option (List Int) := spec_word.l0 k a1 l2 (l2.length : Int) 0 a0_0 a0_1 a0_2 a0_3 a0_4 a0_5
theorem spec_word.mono_l : ∀ k, (∀ y0 y1 y2 y3 y4 y5 y6 y7 y8 y9, LeO (spec_word.l0 k y0 y1 y2 y3 y4 y5 y6 y7 y8 y9) (spec_word.l0 (k + 1) y0 y1 y2 y3 y4 y5 y6 y7 y8 y9)) ∧ (∀ y0 y1 y2, LeO (spec_word.j1 k y0 y1 y2) (spec_word.j1 (k + 1) y0 y1 y2)) ∧ (∀ y0 y1, LeO (spec_word.j2 k y0 y1) (spec_word.j2 (k + 1) y0 y1)) ∧ (∀ y0 y1 y2, LeO (spec_word.l1 k y0 y1 y2) (spec_word.l1 (k + 1) y0 y1 y2))
 | 0 => ⟨fun _ _ _ _ _ _ _ _ _ _ r h => by simp [spec_word.l0] at h, fun _ _ _ r h => by simp [spec_word.j1] at h, fun _ _ r h => by simp [spec_word.j2] at h, fun _ _ _ r h => by simp [spec_word.l1] at h⟩
 | k + 1 => by
  obtain ⟨ih0, ih1, ih2, ih3⟩ := spec_word.mono_l k
  refine ⟨?_, ?_, ?_, ?_⟩
  ·intro y0 y1 y2 y3 y4 y5 y6 y7 y8 y9
   unfold spec_word.l0
   repeat' first
   | (with_reducible exact ih0 _ _ _ _ _ _ _ _ _ _)
   | (with_reducible exact ih1 _ _ _)
   | (with_reducible exact ih2 _ _)
   | (with_reducible exact ih3 _ _ _)
   | (with_reducible exact LeO.refl _)
   | (with_reducible exact LeO.none _)
   | (with_reducible refine LeO.ite ?_ ?_)
   | (with_reducible refine LeO.bind ?_ (fun _ => ?_))
   | exact ih0 _ _ _ _ _ _ _ _ _ _
   | exact ih1 _ _ _
   | exact ih2 _ _
   | exact ih3 _ _ _
   | exact LeO.none _
   | refine LeO.ite ?_ ?_
   | refine LeO.bind ?_ (fun _ => ?_)
  ·intro y0 y1 y2
   unfold spec_word.j1
   repeat' first
   | (with_reducible exact ih0 _ _ _ _ _ _ _ _ _ _)
   | (with_reducible exact ih1 _ _ _)
   | (with_reducible exact ih2 _ _)
   | (with_reducible exact ih3 _ _ _)
   | (with_reducible exact LeO.refl _)
   | (with_reducible exact LeO.none _)
   | (with_reducible refine LeO.ite ?_ ?_)
   | (with_reducible refine LeO.bind ?_ (fun _ => ?_))
   | exact ih0 _ _ _ _ _ _ _ _ _ _
   | exact ih1 _ _ _
   | exact ih2 _ _
   | exact ih3 _ _ _
   | exact LeO.none _
   | refine LeO.ite ?_ ?_
   | refine LeO.bind ?_ (fun _ => ?_)
  ·intro y0 y1
   unfold spec_word.j2
   repeat' first
   | (with_reducible exact ih0 _ _ _ _ _ _ _ _ _ _)
   | (with_reducible exact ih1 _ _ _)
   | (with_reducible exact ih2 _ _)
   | (with_reducible exact ih3 _ _ _)
   | (with_reducible exact LeO.refl _)
   | (with_reducible exact LeO.none _)
   | (with_reducible refine LeO.ite ?_ ?_)
   | (with_reducible refine LeO.bind ?_ (fun _ => ?_))
   | exact ih0 _ _ _ _ _ _ _ _ _ _
   | exact ih1 _ _ _
   | exact ih2 _ _
   | exact ih3 _ _ _
   | exact LeO.none _
   | refine LeO.ite ?_ ?_
   | refine LeO.bind ?_ (fun _ => ?_)
  ·intro y0 y1 y2
   unfold spec_word.l1
   repeat' first
   | (with_reducible exact ih0 _ _ _ _ _ _ _ _ _ _)
   | (with_reducible exact ih1 _ _ _)
   | (with_reducible exact ih2 _ _)
   | (with_reducible exact ih3 _ _ _)
   | (with_reducible exact LeO.refl _)
   | (with_reducible exact LeO.none _)
   | (with_reducible refine LeO.ite ?_ ?_)
   | (with_reducible refine LeO.bind ?_ (fun _ => ?_))
   | exact ih0 _ _ _ _ _ _ _ _ _ _
   | exact ih1 _ _ _
   | exact ih2 _ _
   | exact ih3 _ _ _
   | exact LeO.none _
   | refine LeO.ite ?_ ?_
   | refine LeO.bind ?_ (fun _ => ?_)
theorem spec_word.mono : ∀ a0 a1 a2 a3 a4 a5 a6 a7 k, LeO (spec_word.f k a0 a1 a2 a3 a4 a5 a6 a7) (spec_word.f (k + 1) a0 a1 a2 a3 a4 a5 a6 a7) := by
 intro a0 a1 a2 a3 a4 a5 a6 a7 k
 obtain ⟨ih0, ih1, ih2, ih3⟩ := spec_word.mono_l k
 unfold spec_word.f
 repeat' first
   | (with_reducible exact ih0 _ _ _ _ _ _ _ _ _ _)
   | (with_reducible exact ih1 _ _ _)
   | (with_reducible exact ih2 _ _)
   | (with_reducible exact ih3 _ _ _)
   | (with_reducible exact LeO.refl _)
   | (with_reducible exact LeO.none _)
   | (with_reducible refine LeO.ite ?_ ?_)
   | (with_reducible refine LeO.bind ?_ (fun _ => ?_))
   | exact ih0 _ _ _ _ _ _ _ _ _ _
   | exact ih1 _ _ _
   | exact ih2 _ _
   | exact ih3 _ _ _
   | exact LeO.none _
   | refine LeO.ite ?_ ?_
   | refine LeO.bind ?_ (fun _ => ?_)
set_option maxHeartbeats 8000000 in
set_option maxRecDepth 100000 in
theorem spec_word.calls (k : Nat) (a0_0 : Int) (a0_1 : Int) (a0_2 : Int) (a0_3 : Int) (a0_4 : Int) (a0_5 : Int) (a1 : Int) (A2 : Option Addr) (c2 : Nat) (l2 : List Int) (r : List Int) (w : World) (hr2 : Kd.C (Kd.int .u8) w A2 l2.length l2) (hc2 : l2.length ≤ c2) (h : spec_word.f k a0_0 a0_1 a0_2 a0_3 a0_4 a0_5 a1 l2 = some r) :
  Calls Tryd.prog 78 #[.agg #[.int .i64 a0_0, .int .i64 a0_1, .int .i64 a0_2, .int .u64 a0_3, .int .u64 a0_4, .int .u64 a0_5], .int .u64 a1, .slice A2 l2.length c2] w fun e w' => ∃ v0_ : Value, e = .returned (v0_) ∧ Kd.R (Kd.int .u8) 5 w' w.heap.size (fun _ => True) v0_ r ∧ Below w.heap.size w w' := by
 have hu37 := Tryd.underlying37
 have HR2 := Aside0.mk hr2
 have HC2 := Aside0.mk hc2
 clear hr2 hc2
 have HB := Aside0.mk (Below.refl w.heap.size w)
 have H : (spec_word.l0 k a1 l2 (l2.length : Int) 0 a0_0 a0_1 a0_2 a0_3 a0_4 a0_5) = some r := h
 clear h
 have H' := Aside0.mk H
 clear H
 go_enter Tryd.func78, Tryd.ntmps78
 go_wp2_with (first | ((with_reducible refine gate_dst (N := 3) rfl ?_); refine box_event ?hg (N := 3) ?hd (cs := #[.int .i64 a0_0, .int .i64 a0_1, .int .i64 a0_2, .int .u64 a0_3, .int .u64 a0_4, .int .u64 a0_5]) (t := 37) ?hr ?_; (case hd => rfl); (case hg => rfl); (case hr => first | (go_simp; done) | (go_simp; rfl)); intro gb344 hg w4 hbox hb; have n0_ := Aside0.mk (below_step (by repeat (first | (with_reducible first | exact HB.out | apply below_alloc | apply pw_below_drewN | apply below_drew1) | exact HB.out)) hb); have n1_ := Aside0.mk (hbox); have n2_ := Aside0.mk ((by rw [hg]; exact (below_size (by repeat (first | (with_reducible first | exact HB.out | apply below_alloc | apply pw_below_drewN | apply below_drew1) | exact HB.out))) : w.heap.size ≤ gb344)); have n3_ := Aside0.mk ((by rw [hg]; exact (below_size (by repeat (first | (with_reducible first | exact HB.out | apply below_alloc | apply pw_below_drewN | apply below_drew1) | exact HB.out))) : w.heap.size ≤ gb344)); clear HB; have HB := n0_; have BK344 := n1_; have GW344 := n2_; have GE344 := n3_; clear n0_ n1_ n2_ n3_; clear hb hbox hg))
 try simp only [Act.put, List.setIfInBounds_toArray, List.set_cons_zero, List.set_cons_succ]
 go_loopg [1, 14] k (fun kq v1 v14 w' => ∃ (x1_1 : Int) (x14_1 : Int), v1 = .int .u64 x1_1 ∧ v14 = .int .i64 x14_1 ∧ Aside0 (spec_word.l0 kq x1_1 l2 (l2.length : Int) x14_1 a0_0 a0_1 a0_2 a0_3 a0_4 a0_5 = some r) ∧ Aside0 (kq ≤ k) ∧ Aside0 (w'.heap[gb344]? = some (.cells #[.int .i64 a0_0, .int .i64 a0_1, .int .i64 a0_2, .int .u64 a0_3, .int .u64 a0_4, .int .u64 a0_5] 37 (0, 0))) ∧ Aside0 (Below w.heap.size w w'))
 case atStart => exact ⟨(a1), (0), (by first | rfl | (simp; done) | (simp [*]; done)), (by first | rfl | (simp; done) | (simp [*]; done)), H', ⟨Nat.le_refl _⟩, ⟨by (with_reducible repeat (first | refine blk_drewN ?_ _ | refine blk_drew ?_ | refine blk_alloc ?_ _)); exact BK344.out⟩, ⟨by repeat (first | (with_reducible first | exact HB.out | apply below_alloc | apply pw_below_drewN | apply below_drew1 | refine below_set ?_ GE344.out) | exact HB.out)⟩⟩
 case round =>
  clear H'
  try clear c2
  try clear p2
  obtain ⟨x1_1, x14_1, rfl, rfl, HA, HK1, BK344, HB⟩ := hrel
  cases gk with
  | zero => exact absurd HA.out (by simp [spec_word.l0])
  | succ k1 =>
   have H := HA.out
   clear HA
   simp only [spec_word.l0] at H
   by_cases c5 : x14_1 < (l2.length : Int)
   ·rw [if_pos c5] at H
    have c5b0 : decide (x14_1 < (l2.length : Int)) = true := decide_eq_true c5
    clear c5
    by_cases c6 : 0 ≤ x14_1
    ·rw [if_pos c6] at H
     have c6b0 : decide (0 ≤ x14_1) = true := decide_eq_true c6
     clear c6
     by_cases c7 : x14_1 < (l2.length : Int)
     ·rw [if_pos c7] at H
      have c7b0 : decide (x14_1 < (l2.length : Int)) = true := decide_eq_true c7
      clear c7
      have H' := Aside0.mk H
      clear H
      have p345 : 0 ≤ (x14_1 : Int) := of_decide_eq_true (by first | (with_reducible assumption) | assumption)
      have q345 : x14_1 < (l2.length : Int) := of_decide_eq_true (by first | (with_reducible assumption) | assumption)
      obtain ⟨ad345, e345, hx345_0⟩ := Kd.at_int HR2.out x14_1 p345 q345
      cases e345
      (try replace hx345_0 := (HB.out.cell (World.block_lt_of_cell? w _ hx345_0)).trans hx345_0)
      replace p345 := eq_true p345
      replace q345 := eq_true q345
      go_wp2
      go_roundg k1
      case measure => have := HK1.out; omega
      case rel => exact ⟨(IntKind.u64.wrap ((Go.bits .xor .u64 x1_1 (IntKind.u64.wrap (rd l2 x14_1))) * 1099511628211)), (wrap64 (x14_1 + 1)), (by first | rfl | (simp; done) | (simp [*]; done)), (by first | rfl | (simp; done) | (simp [*]; done)), H', ⟨by have := HK1.out; omega⟩, ⟨by (with_reducible repeat (first | refine blk_drewN ?_ _ | refine blk_drew ?_ | refine blk_alloc ?_ _)); exact BK344.out⟩, ⟨by repeat (first | (with_reducible first | exact HB.out | apply below_alloc | apply pw_below_drewN | apply below_drew1 | refine below_set ?_ GE344.out) | exact HB.out)⟩⟩
     ·rw [if_neg c7] at H
      exact absurd H (by simp)
    ·rw [if_neg c6] at H
     exact absurd H (by simp)
   ·rw [if_neg c5] at H
    have c5b0 : decide (x14_1 < (l2.length : Int)) = false := decide_eq_false c5
    clear c5
    have HC8 := Aside0.mk H
    clear H
    have hcz9_0 : wr.cell? ⟨gb344, 0, none⟩ = some (.int .i64 a0_0) := (blk_cell BK344.out 0).trans rfl
    have hcz9_1 : wr.cell? ⟨gb344, 1, none⟩ = some (.int .i64 a0_1) := (blk_cell BK344.out 1).trans rfl
    have hcz9_2 : wr.cell? ⟨gb344, 2, none⟩ = some (.int .i64 a0_2) := (blk_cell BK344.out 2).trans rfl
    have hcz9_3 : wr.cell? ⟨gb344, 3, none⟩ = some (.int .u64 a0_3) := (blk_cell BK344.out 3).trans rfl
    have hcz9_4 : wr.cell? ⟨gb344, 4, none⟩ = some (.int .u64 a0_4) := (blk_cell BK344.out 4).trans rfl
    have hcz9_5 : wr.cell? ⟨gb344, 5, none⟩ = some (.int .u64 a0_5) := (blk_cell BK344.out 5).trans rfl
    have hfz9_0 := blk_frozen BK344.out 0
    have hfz9_1 := blk_frozen BK344.out 1
    have hfz9_2 := blk_frozen BK344.out 2
    have hfz9_3 := blk_frozen BK344.out 3
    have hfz9_4 := blk_frozen BK344.out 4
    have hfz9_5 := blk_frozen BK344.out 5
    go_upto_region 7 with (fail)
    go_cut [31] (fun v31 wc => ∃ (kq : Nat) (x31_7 : Bool), v31 = .bool x31_7 ∧ Aside0 (spec_word.j1 kq x1_1 a0_2 x31_7 = some r) ∧ Aside0 (kq ≤ k1) ∧ Aside0 (wc.heap[gb344]? = some (.cells #[.int .i64 a0_0, .int .i64 a0_1, .int .i64 a0_2, .int .u64 a0_3, .int .u64 a0_4, .int .u64 a0_5] 37 (0, 0))) ∧ Aside0 (Below w.heap.size w wc))
    case first =>
     have H := HC8.out
     clear HC8
     by_cases c10 : a0_2 < 1
     ·rw [if_pos c10] at H
      have c10b0 : decide (a0_2 < 1) = true := decide_eq_true c10
      clear c10
      (first | rw [c10b0] | (simp only [i64_w, i32_w]; rw [c10b0]) | skip)
      have H' := Aside0.mk H
      clear H
      go_wp2
      go_meet
      case rel => exact ⟨_, (true), (by first | rfl | (simp; done) | (simp [*]; done)), H', ⟨by have := HK1.out; first | omega | exact Nat.le_refl _⟩, ⟨by (with_reducible repeat (first | refine blk_drewN ?_ _ | refine blk_drew ?_ | refine blk_alloc ?_ _)); exact BK344.out⟩, ⟨by repeat (first | (with_reducible first | exact HB.out | apply below_alloc | apply pw_below_drewN | apply below_drew1 | refine below_set ?_ GE344.out) | exact HB.out)⟩⟩
     ·rw [if_neg c10] at H
      have c10b0 : decide (a0_2 < 1) = false := decide_eq_false c10
      clear c10
      (first | rw [c10b0] | (simp only [i64_w, i32_w]; rw [c10b0]) | skip)
      have H' := Aside0.mk H
      clear H
      go_wp2
      go_meet
      case rel => exact ⟨_, (decide (a0_2 > 8)), (by first | rfl | (simp; done) | (simp [*]; done)), H', ⟨by have := HK1.out; first | omega | exact Nat.le_refl _⟩, ⟨by (with_reducible repeat (first | refine blk_drewN ?_ _ | refine blk_drew ?_ | refine blk_alloc ?_ _)); exact BK344.out⟩, ⟨by repeat (first | (with_reducible first | exact HB.out | apply below_alloc | apply pw_below_drewN | apply below_drew1 | refine below_set ?_ GE344.out) | exact HB.out)⟩⟩
    case rest =>
     clear HC8
     try clear c1
     try clear c2
     try clear p2
     try clear p3
     try clear q3
     try clear hx3
     try clear c5
     try clear c5b0
     try clear c6
     try clear c6b0
     try clear p6
     try clear c7
     try clear c7b0
     try clear c10
     try clear c10b0
     try clear hcz9_0
     try clear hcz9_1
     try clear hcz9_2
     try clear hcz9_3
     try clear hcz9_4
     try clear hcz9_5
     try clear hfz9_0
     try clear hfz9_1
     try clear hfz9_2
     try clear hfz9_3
     try clear hfz9_4
     try clear hfz9_5
     try clear hx345_0
     try clear p2
     try clear p345
     try clear q345
     obtain ⟨kq, x31_7, rfl, HA, HJ7, BK344, HB⟩ := hcut
     cases kq with
     | zero => exact absurd HA.out (by simp [spec_word.j1])
     | succ kj7 =>
      have H := HA.out
      clear HA
      simp only [spec_word.j1] at H
      have HC11 := Aside0.mk H
      clear H
      go_upto_if 31 with (fail)
      go_cut [9] (fun v9 wc => ∃ (kq : Nat) (x9_10 : Int), v9 = .int .i64 x9_10 ∧ Aside0 (spec_word.j2 kq x1_1 x9_10 = some r) ∧ Aside0 (kq ≤ kj7) ∧ Aside0 (wc.heap[gb344]? = some (.cells #[.int .i64 a0_0, .int .i64 a0_1, .int .i64 a0_2, .int .u64 a0_3, .int .u64 a0_4, .int .u64 a0_5] 37 (0, 0))) ∧ Aside0 (Below w.heap.size w wc))
      case first =>
       have H := HC11.out
       clear HC11
       by_cases c12 : x31_7 = true
       ·subst c12
        have H1 : (spec_word.j2 kj7 x1_1 8) = some r := by rw [if_pos rfl] at H; exact H
        clear H
        have H := H1
        clear H1
        have H' := Aside0.mk H
        clear H
        go_wp2
        go_meet
        case rel => exact ⟨_, (8), (by first | rfl | (simp; done) | (simp [*]; done)), H', ⟨by have := HK1.out; have := HJ7.out; first | omega | exact Nat.le_refl _⟩, ⟨by (with_reducible repeat (first | refine blk_drewN ?_ _ | refine blk_drew ?_ | refine blk_alloc ?_ _)); exact BK344.out⟩, ⟨by repeat (first | (with_reducible first | exact HB.out | apply below_alloc | apply pw_below_drewN | apply below_drew1 | refine below_set ?_ GE344.out) | exact HB.out)⟩⟩
       ·replace c12 := Bool.eq_false_iff.mpr c12
        subst c12
        have H1 : (spec_word.j2 kj7 x1_1 a0_2) = some r := by rw [if_neg (show ¬ (false = true) by decide)] at H; exact H
        clear H
        have H := H1
        clear H1
        have H' := Aside0.mk H
        clear H
        go_wp2
        go_meet
        case rel => exact ⟨_, (a0_2), (by first | rfl | (simp; done) | (simp [*]; done)), H', ⟨by have := HK1.out; have := HJ7.out; first | omega | exact Nat.le_refl _⟩, ⟨by (with_reducible repeat (first | refine blk_drewN ?_ _ | refine blk_drew ?_ | refine blk_alloc ?_ _)); exact BK344.out⟩, ⟨by repeat (first | (with_reducible first | exact HB.out | apply below_alloc | apply pw_below_drewN | apply below_drew1 | refine below_set ?_ GE344.out) | exact HB.out)⟩⟩
      case rest =>
       clear HC11
       try clear c1
       try clear c2
       try clear p2
       try clear p3
       try clear q3
       try clear hx3
       try clear c5
       try clear c5b0
       try clear c6
       try clear c6b0
       try clear p6
       try clear c7
       try clear c7b0
       try clear c10
       try clear c10b0
       try clear c12
       try clear hcz9_0
       try clear hcz9_1
       try clear hcz9_2
       try clear hcz9_3
       try clear hcz9_4
       try clear hcz9_5
       try clear hfz9_0
       try clear hfz9_1
       try clear hfz9_2
       try clear hfz9_3
       try clear hfz9_4
       try clear hfz9_5
       try clear hx345_0
       try clear p2
       try clear p3
       try clear p345
       try clear p6
       try clear q3
       try clear q345
       obtain ⟨kq, x9_10, rfl, HA, HJ10, BK344, HB⟩ := hcut
       cases kq with
       | zero => exact absurd HA.out (by simp [spec_word.j2])
       | succ kj10 =>
        have H := HA.out
        clear HA
        simp only [spec_word.j2] at H
        have H' := Aside0.mk H
        clear H
        go_wp2
        try simp only [Act.put, List.setIfInBounds_toArray, List.set_cons_zero, List.set_cons_succ]
        go_loopg [10, 11] kj10 (fun kq v10 v11 w' => ∃ (x10_4 : List Int) (x11_4 : Int), v11 = .int .i64 x11_4 ∧ Aside0 (spec_word.l1 kq x1_1 x10_4 x11_4 = some r) ∧ Aside0 (kq ≤ kj10) ∧ Aside0 (Kd.R (Kd.int .u8) 5 w' w.heap.size (fun _ => True) v10 x10_4) ∧ Aside0 (w'.heap[gb344]? = some (.cells #[.int .i64 a0_0, .int .i64 a0_1, .int .i64 a0_2, .int .u64 a0_3, .int .u64 a0_4, .int .u64 a0_5] 37 (0, 0))) ∧ Aside0 (Below w.heap.size w w'))
        case atStart => exact ⟨(([] : List Int)), (wrap64 (x9_10 - 1)), (by first | rfl | (simp; done) | (simp [*]; done)), H', ⟨Nat.le_refl _⟩, ⟨by first | exact Kd.R_nil _ _ _ _ _ | exact Kd.N_nil _ _ _ _ _ | exact Kd.V_nil _ _ _ _ _ | exact Kd.Q_nil _ _ _ _ _ | exact Kd.S_nil _ _ _ _ _⟩, ⟨by (with_reducible repeat (first | refine blk_drewN ?_ _ | refine blk_drew ?_ | refine blk_alloc ?_ _)); exact BK344.out⟩, ⟨by repeat (first | (with_reducible first | exact HB.out | apply below_alloc | apply pw_below_drewN | apply below_drew1 | refine below_set ?_ GE344.out) | exact HB.out)⟩⟩
        case round =>
         clear H'
         try clear c1
         try clear c2
         try clear p2
         try clear p3
         try clear q3
         try clear hx3
         try clear c5
         try clear c5b0
         try clear c6
         try clear c6b0
         try clear p6
         try clear c7
         try clear c7b0
         try clear c10
         try clear c10b0
         try clear c12
         try clear hcz9_0
         try clear hcz9_1
         try clear hcz9_2
         try clear hcz9_3
         try clear hcz9_4
         try clear hcz9_5
         try clear hfz9_0
         try clear hfz9_1
         try clear hfz9_2
         try clear hfz9_3
         try clear hfz9_4
         try clear hfz9_5
         try clear hx345_0
         try clear p2
         try clear p3
         try clear p345
         try clear p6
         try clear q3
         try clear q345
         obtain ⟨x10_4, x11_4, rfl, HA, HK4, HO_10, BK344, HB⟩ := hrel
         cases gk with
         | zero => exact absurd HA.out (by simp [spec_word.l1])
         | succ k4 =>
          have H := HA.out
          clear HA
          simp only [spec_word.l1] at H
          by_cases c13 : x11_4 ≥ 0
          ·rw [if_pos c13] at H
           have c13b0 : decide (0 ≤ x11_4) = true := decide_eq_true c13
           clear c13
           obtain ⟨ji14, hji14⟩ : ∃ j_ : Int, (wrap64 (8 * x11_4)) = j_ := ⟨_, rfl⟩
           replace H : (if 0 ≤ (ji14) then (if x10_4.length < 140737488355328 then (spec_word.l1 k4 x1_1 (x10_4 ++ [(shr .u64 x1_1 (ji14)) % 256]) (wrap64 (x11_4 - 1))) else (none)) else (none)) = some r := by first | (rw [hji14] at H; exact H) | (simp only [hji14] at H ⊢; exact H)
           have hji14w : (IntKind.i64.wrap (8 * x11_4)) = ji14 := (i64_w _).trans hji14
           by_cases c15 : 0 ≤ (ji14)
           ·rw [if_pos c15] at H
            have c15b0 := eq_true c15
            have c15b1 : decide (0 ≤ (ji14)) = true := decide_eq_true c15
            clear c15
            obtain ⟨ji16, hji16⟩ : ∃ j_ : Int, (shr .u64 x1_1 (ji14)) = j_ := ⟨_, rfl⟩
            replace H : (if x10_4.length < 140737488355328 then (spec_word.l1 k4 x1_1 (x10_4 ++ [(ji16) % 256]) (wrap64 (x11_4 - 1))) else (none)) = some r := by first | (rw [hji16] at H; exact H) | (simp only [hji16] at H ⊢; exact H)
            have hji16_ : (x1_1 / 2 ^ min (ji14).toNat 64) = ji16 := hji16
            have hji16z : (ji14) ≤ 64 → (x1_1 / 2 ^ (ji14).toNat) = ji16 := shr_small hji16
            by_cases c17 : x10_4.length < 140737488355328
            ·rw [if_pos c17] at H
             have LMc17 := Aside0.mk c17
             clear c17
             obtain ⟨y346, hy346⟩ : ∃ y_ : List Int, y_ = (x10_4 ++ [(ji16) % 256]) := ⟨_, rfl⟩
             replace H : (spec_word.l1 k4 x1_1 y346 (wrap64 (x11_4 - 1))) = some r := by first | (rw [hy346]; with_reducible exact H) | (have H2_ := (Option.bind_some _ _).symm.trans H; rw [hy346]; with_reducible exact H2_) | (have H2_ := (Option.bind_some _ _).symm.trans H; with_reducible exact H2_) | with_reducible exact H | (rw [hy346]; exact H) | exact H
             have Ny346 := Aside0.mk hy346
             clear hy346
             have H' := Aside0.mk H
             clear H
             go_wp2_with (first | ((with_reducible refine gate_builtin (b := .append) (xs := #[.tmp 38, .tmp 44]) rfl ?_); at_builtin; refine Kd.R_append (Kd.int .u8) (w0 := w) w.heap.size rfl (.tmp 38) (.tmp 44) 42 5 (.int .u8 0) 1 rfl Tryd.underlying42 info5 rfl (by decide) (by omega) u10 x10_4 ((ji16) % 256) [.int .u8 ((ji16) % 256)] (fun _ => True) (fun _ => False) rfl rfl ?aP (fun _ hk => hk.elim) ?aF ?aO ?aB ?aS ?aL ?_; (case aP => exact rfl); (case aB => exact (by repeat (first | (with_reducible first | exact HB.out | apply below_alloc | apply pw_below_drewN | apply below_drew1 | refine below_set ?_ GE344.out) | exact HB.out))); (case aF => exact (fun _ _ => trivial)); (case aO => exact (by (with_reducible repeat (first | apply Kd.R_alloc | apply Kd.R_drewN | apply Kd.R_drew)); exact HO_10.out)); (case aS => exact (below_size (by repeat (first | (with_reducible first | exact HB.out | apply below_alloc | apply pw_below_drewN | apply below_drew1 | refine below_set ?_ GE344.out) | exact HB.out)))); (case aL => have := LMc17.out; omega); intro v347 w18 ho hb hg hat; rw [← Ny346.out] at ho; have n0_ := Aside0.mk (blk_grown (g := gb344) (o := .cells #[.int .i64 a0_0, .int .i64 a0_1, .int .i64 a0_2, .int .u64 a0_3, .int .u64 a0_4, .int .u64 a0_5] 37 (0, 0)) (by (with_reducible repeat (first | refine blk_drewN ?_ _ | refine blk_drew ?_ | refine blk_alloc ?_ _)); exact BK344.out) hg (Kd.R_ne HO_10.out BK344.out (by decide))); have n1_ := Aside0.mk (hb); have n2_ := Aside0.mk (ho); clear BK344; clear HB; clear HO_10; have BK344 := n0_; have HB := n1_; have HO348 := n2_; clear n0_ n1_ n2_; clear ho hb hg hat))
             go_roundg k4
             case measure => have := HK1.out; have := HJ7.out; have := HJ10.out; have := HK4.out; omega
             case rel => exact ⟨(y346), (wrap64 (x11_4 - 1)), (by first | rfl | (simp; done) | (simp [*]; done)), H', ⟨by have := HK1.out; have := HJ7.out; have := HJ10.out; have := HK4.out; omega⟩, ⟨by (with_reducible repeat (first | apply Kd.R_alloc | apply Kd.R_drewN | apply Kd.R_drew)); exact HO348.out⟩, ⟨by (with_reducible repeat (first | refine blk_drewN ?_ _ | refine blk_drew ?_ | refine blk_alloc ?_ _)); exact BK344.out⟩, ⟨by repeat (first | (with_reducible first | exact HB.out | apply below_alloc | apply pw_below_drewN | apply below_drew1 | refine below_set ?_ GE344.out) | exact HB.out)⟩⟩
            ·rw [if_neg c17] at H
             exact absurd H (by simp)
           ·rw [if_neg c15] at H
            exact absurd H (by simp)
          ·rw [if_neg c13] at H
           have c13b0 : decide (0 ≤ x11_4) = false := decide_eq_false c13
           clear c13
           obtain rfl := Option.some.inj H
           go_wp2
           go_ret
           exact ⟨_, by first | rfl | (simp [errW_none, errW_some] <;> rfl) | (simp [*, errW_none, errW_some] <;> rfl), by (with_reducible repeat (first | apply Kd.R_alloc | apply Kd.R_drewN | apply Kd.R_drew)); exact HO_10.out, by repeat (first | (with_reducible first | exact HB.out | apply below_alloc | apply pw_below_drewN | apply below_drew1 | refine below_set ?_ GE344.out) | exact HB.out)⟩
end Go.Proofs.YtijldedhcjkhiaaDoor.I
