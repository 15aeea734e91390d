import Derived.Test.YtijldedhcjkhiaaDoorSI0
import Derived.Test.YtijldedhcjkhiaaDoorSI1
import Derived.Test.YtijldedhcjkhiaaDoorSI6
import Derived.Test.YtijldedhcjkhiaaDoorSI10
import Derived.Test.YtijldedhcjkhiaaDoorSI12
namespace Go.Proofs.YtijldedhcjkhiaaDoor.I
open Go.RowKit Go.Proofs.YtijldedhcjkhiaaDoorW.PrintWords Go.Proofs.YtijldedhcjkhiaaDoorW.PrintLast Go.Proofs.YtijldedhcjkhiaaDoorW.PrintMore
attribute [local go_sem] max2_int min2_int max_two min_two max_three min_three max_four min_four   -- for this text's walks alone
set_option linter.unusedVariables false
set_option linter.unusedSimpArgs false
def laws_FnInclusionHashes.j0 : Nat → Int → Int → List (List Int) → List (List Int) → Bool → Bool → Int → Int → Int → Int → Int → Int → Option (Bool)
 | 0, _, _, _, _, _, _, _, _, _, _, _, _ => none
 | k + 1, x1, x2, x3, x9, x10, x38, x422000, x422001, x422002, x422003, x422004, x422005 => if x38 = true then (some (!x10)) else (if x10 = true then ((spec_InclusionProof.f k x1 x2).bind fun bt438 => ((spec_Folded.f k x422000 x422001 x422002 x422003 x422004 x422005 bt438.1 bt438.2.1 bt438.2.2.1 bt438.2.2.2.1 bt438.2.2.2.2 x3).bind fun t445 => ((spec_Same.f k x9 t445).bind fun t448 => (some t448)))) else (some false))
def laws_FnInclusionHashes.f (k : Nat) (a0_0 : Int) (a0_1 : Int) (a0_2 : Int) (a0_3 : Int) (a0_4 : Int) (a0_5 : Int) (a1 : Int) (a2 : Int) (l3 : List (List Int)) : Option (Bool) := (laws_zzFits2.f k l3).bind fun t422 => (if t422 = true then ((laws_logSmall.f k l3).bind fun t423 => (if t423 = true then ((laws_logCopy.f k l3).bind fun t424 => ((impl_InclusionHashes.f k a0_0 a0_1 a0_2 a0_3 a0_4 a0_5 a1 a2 t424).bind fun bt427 => (if a1 ≥ a2 then (laws_FnInclusionHashes.j0 k a1 a2 l3 bt427.1 bt427.2 true a0_0 a0_1 a0_2 a0_3 a0_4 a0_5) else ((spec_InclusionProof.f k a1 a2).bind fun bt431 => (laws_FnInclusionHashes.j0 k a1 a2 l3 bt427.1 bt427.2 ((l3.length : Int) != (bt431.1.length : Int)) a0_0 a0_1 a0_2 a0_3 a0_4 a0_5))))) else (some true))) else (some true))
theorem laws_FnInclusionHashes.mono_l : ∀ k, (∀ y0 y1 y2 y3 y4 y5 y6 y7 y8 y9 y10 y11, LeO (laws_FnInclusionHashes.j0 k y0 y1 y2 y3 y4 y5 y6 y7 y8 y9 y10 y11) (laws_FnInclusionHashes.j0 (k + 1) y0 y1 y2 y3 y4 y5 y6 y7 y8 y9 y10 y11))
 | 0 => fun _ _ _ _ _ _ _ _ _ _ _ _ r h => by simp [laws_FnInclusionHashes.j0] at h
 | k + 1 => by
  have ih0 := laws_FnInclusionHashes.mono_l k
  ·intro y0 y1 y2 y3 y4 y5 y6 y7 y8 y9 y10 y11
   unfold laws_FnInclusionHashes.j0
   repeat' first
   | (with_reducible exact ih0 _ _ _ _ _ _ _ _ _ _ _ _)
   | (with_reducible exact impl_InclusionHashes.mono _ _ _ _ _ _ _ _ _ _)
   | (with_reducible exact laws_logCopy.mono _ _)
   | (with_reducible exact laws_logSmall.mono _ _)
   | (with_reducible exact laws_zzFits2.mono _ _)
   | (with_reducible exact spec_Folded.mono _ _ _ _ _ _ _ _ _ _ _ _ _)
   | (with_reducible exact spec_InclusionProof.mono _ _ _)
   | (with_reducible exact spec_Same.mono _ _ _)
   | (with_reducible exact LeO.refl _)
   | (with_reducible exact LeO.none _)
   | (with_reducible refine LeO.ite ?_ ?_)
   | (with_reducible refine LeO.bind ?_ (fun _ => ?_))
   | exact ih0 _ _ _ _ _ _ _ _ _ _ _ _
   | exact impl_InclusionHashes.mono _ _ _ _ _ _ _ _ _ _
   | exact laws_logCopy.mono _ _
   | exact laws_logSmall.mono _ _
   | exact laws_zzFits2.mono _ _
   | exact spec_Folded.mono _ _ _ _ _ _ _ _ _ _ _ _ _
   | exact spec_InclusionProof.mono _ _ _
   | exact spec_Same.mono _ _ _
   | exact LeO.none _
   | refine LeO.ite ?_ ?_
   | refine LeO.bind ?_ (fun _ => ?_)
theorem laws_FnInclusionHashes.mono : ∀ a0 a1 a2 a3 a4 a5 a6 a7 a8 k, LeO (laws_FnInclusionHashes.f k a0 a1 a2 a3 a4 a5 a6 a7 a8) (laws_FnInclusionHashes.f (k + 1) a0 a1 a2 a3 a4 a5 a6 a7 a8) := by
 intro a0 a1 a2 a3 a4 a5 a6 a7 a8 k
 have ih0 := laws_FnInclusionHashes.mono_l k
 unfold laws_FnInclusionHashes.f
 repeat' first
   | (with_reducible exact ih0 _ _ _ _ _ _ _ _ _ _ _ _)
   | (with_reducible exact impl_InclusionHashes.mono _ _ _ _ _ _ _ _ _ _)
   | (with_reducible exact laws_logCopy.mono _ _)
   | (with_reducible exact laws_logSmall.mono _ _)
   | (with_reducible exact laws_zzFits2.mono _ _)
   | (with_reducible exact spec_Folded.mono _ _ _ _ _ _ _ _ _ _ _ _ _)
   | (with_reducible exact spec_InclusionProof.mono _ _ _)
   | (with_reducible exact spec_Same.mono _ _ _)
   | (with_reducible exact LeO.refl _)
   | (with_reducible exact LeO.none _)
   | (with_reducible refine LeO.ite ?_ ?_)
   | (with_reducible refine LeO.bind ?_ (fun _ => ?_))
   | exact ih0 _ _ _ _ _ _ _ _ _ _ _ _
   | exact impl_InclusionHashes.mono _ _ _ _ _ _ _ _ _ _
   | exact laws_logCopy.mono _ _
   | exact laws_logSmall.mono _ _
   | exact laws_zzFits2.mono _ _
   | exact spec_Folded.mono _ _ _ _ _ _ _ _ _ _ _ _ _
   | exact spec_InclusionProof.mono _ _ _
   | exact spec_Same.mono _ _ _
   | exact LeO.none _
   | refine LeO.ite ?_ ?_
   | refine LeO.bind ?_ (fun _ => ?_)
def laws_FnInclusionHashes.T5 : Bool × List (List Nat × List Nat) := (true, [([], []), ([], []), ([], []), ([], []), ([3], [3]), ([0, 1, 2, 4, 4], [0, 1, 2, 4]), ([5], [5]), ([6], [6]), ([6], [6]), ([7, 5, 0, 1, 2, 3, 4, 5, 6, 7], [7]), ([8, 9, 0, 1, 2, 3, 4, 5, 6, 7, 8, 9], [8])])
def laws_FnInclusionHashes.B5 : List Nat := [0, 0, 0, 0, 8, 31, 63, 127, 127, 255, 1023]
theorem laws_FnInclusionHashes.tab5 : rtab .any (opsOf Tryd.f9 5) = laws_FnInclusionHashes.T5 := by kernel_rfl
theorem laws_FnInclusionHashes.bits5 : waitsOk laws_FnInclusionHashes.T5.2 laws_FnInclusionHashes.B5 = true := by kernel_rfl
def laws_FnInclusionHashes.T8 : Bool × List (List Nat × List Nat) := (true, [([], []), ([0], [0]), ([1], [1]), ([1], [1]), ([1], [1]), ([1], [1]), ([4, 5, 1, 1], [1, 4, 5]), ([1], [1]), ([3, 6, 7, 6, 1], [1, 3, 6, 7]), ([2, 8, 8, 1], [1, 2, 8]), ([1, 9], [1, 9]), ([10, 9, 0, 1, 2, 3, 4, 5, 6, 7, 8, 9, 10], [10])])
def laws_FnInclusionHashes.B8 : List Nat := [0, 1, 3, 3, 3, 3, 51, 3, 251, 511, 1023, 2047]
theorem laws_FnInclusionHashes.tab8 : rtab .any (opsOf Tryd.f9 8) = laws_FnInclusionHashes.T8 := by kernel_rfl
theorem laws_FnInclusionHashes.bits8 : waitsOk laws_FnInclusionHashes.T8.2 laws_FnInclusionHashes.B8 = true := by kernel_rfl
set_option maxHeartbeats 8000000 in
set_option maxRecDepth 100000 in
theorem laws_FnInclusionHashes.calls (k : Nat) (a0_0 : Int) (a0_1 : Int) (a0_2 : Int) (a0_3 : Int) (a0_4 : Int) (a0_5 : Int) (a1 : Int) (a2 : Int) (A3 : Option Addr) (c3 : Nat) (l3 : List (List Int)) (r : Bool) (w : World) (hGT : GlobT w) (hr3 : Kd.C (Kd.slice 5 (Kd.int .u8)) w A3 l3.length l3) (hc3 : l3.length ≤ c3) (h : laws_FnInclusionHashes.f k a0_0 a0_1 a0_2 a0_3 a0_4 a0_5 a1 a2 l3 = some r) :
  Calls Tryd.prog 9 #[.agg #[.int .i64 a0_0, .int .i64 a0_1, .int .i64 a0_2, .int .u64 a0_3, .int .u64 a0_4, .int .u64 a0_5], .int .u64 a1, .int .u64 a2, .slice A3 l3.length c3] w fun e w' => e = .returned (.bool r) ∧ Below w.heap.size w w' := by
 have hu37 := Tryd.underlying37
 have hfld72_0 : ∀ (z0_ z1_ z2_ z3_ z4_ : Value) (W : World), (Instr.field 72 (.agg #[z0_, z1_, z2_, z3_, z4_]) 0).run Tryd.prog W = .ok z0_ W := fun z0_ z1_ z2_ z3_ z4_ W => by first | rfl | kernel_rfl
 have HR3 := Aside0.mk hr3
 have HC3 := Aside0.mk hc3
 clear hr3 hc3
 have HB := Aside0.mk (Below.refl w.heap.size w)
 have H : ((laws_zzFits2.f k l3).bind fun t422 => (if t422 = true then ((laws_logSmall.f k l3).bind fun t423 => (if t423 = true then ((laws_logCopy.f k l3).bind fun t424 => ((impl_InclusionHashes.f k a0_0 a0_1 a0_2 a0_3 a0_4 a0_5 a1 a2 t424).bind fun bt427 => (if a1 ≥ a2 then (laws_FnInclusionHashes.j0 k a1 a2 l3 bt427.1 bt427.2 true a0_0 a0_1 a0_2 a0_3 a0_4 a0_5) else ((spec_InclusionProof.f k a1 a2).bind fun bt431 => (laws_FnInclusionHashes.j0 k a1 a2 l3 bt427.1 bt427.2 ((l3.length : Int) != (bt431.1.length : Int)) a0_0 a0_1 a0_2 a0_3 a0_4 a0_5))))) else (some true))) else (some true))) = some r := h
 clear h
 replace H := Option.bind_eq_some_iff.mp H
 obtain ⟨t422, A50, H⟩ := H
 replace H : (if t422 = true then ((laws_logSmall.f k l3).bind fun t423 => (if t423 = true then ((laws_logCopy.f k l3).bind fun t424 => ((impl_InclusionHashes.f k a0_0 a0_1 a0_2 a0_3 a0_4 a0_5 a1 a2 t424).bind fun bt427 => (if a1 ≥ a2 then (laws_FnInclusionHashes.j0 k a1 a2 l3 bt427.1 bt427.2 true a0_0 a0_1 a0_2 a0_3 a0_4 a0_5) else ((spec_InclusionProof.f k a1 a2).bind fun bt431 => (laws_FnInclusionHashes.j0 k a1 a2 l3 bt427.1 bt427.2 ((l3.length : Int) != (bt431.1.length : Int)) a0_0 a0_1 a0_2 a0_3 a0_4 a0_5))))) else (some true))) else (some true)) = some r := H
 have A5 := Aside0.mk A50
 clear A50
 by_cases c6 : t422 = true
 ·subst c6
  have H1 : ((laws_logSmall.f k l3).bind fun t423 => (if t423 = true then ((laws_logCopy.f k l3).bind fun t424 => ((impl_InclusionHashes.f k a0_0 a0_1 a0_2 a0_3 a0_4 a0_5 a1 a2 t424).bind fun bt427 => (if a1 ≥ a2 then (laws_FnInclusionHashes.j0 k a1 a2 l3 bt427.1 bt427.2 true a0_0 a0_1 a0_2 a0_3 a0_4 a0_5) else ((spec_InclusionProof.f k a1 a2).bind fun bt431 => (laws_FnInclusionHashes.j0 k a1 a2 l3 bt427.1 bt427.2 ((l3.length : Int) != (bt431.1.length : Int)) a0_0 a0_1 a0_2 a0_3 a0_4 a0_5))))) else (some true))) = some r := by rw [if_pos rfl] at H; exact H
  clear H
  have H := H1
  clear H1
  replace H := Option.bind_eq_some_iff.mp H
  obtain ⟨t423, A70, H⟩ := H
  replace H : (if t423 = true then ((laws_logCopy.f k l3).bind fun t424 => ((impl_InclusionHashes.f k a0_0 a0_1 a0_2 a0_3 a0_4 a0_5 a1 a2 t424).bind fun bt427 => (if a1 ≥ a2 then (laws_FnInclusionHashes.j0 k a1 a2 l3 bt427.1 bt427.2 true a0_0 a0_1 a0_2 a0_3 a0_4 a0_5) else ((spec_InclusionProof.f k a1 a2).bind fun bt431 => (laws_FnInclusionHashes.j0 k a1 a2 l3 bt427.1 bt427.2 ((l3.length : Int) != (bt431.1.length : Int)) a0_0 a0_1 a0_2 a0_3 a0_4 a0_5))))) else (some true)) = some r := H
  have A7 := Aside0.mk A70
  clear A70
  by_cases c8 : t423 = true
  ·subst c8
   have H1 : ((laws_logCopy.f k l3).bind fun t424 => ((impl_InclusionHashes.f k a0_0 a0_1 a0_2 a0_3 a0_4 a0_5 a1 a2 t424).bind fun bt427 => (if a1 ≥ a2 then (laws_FnInclusionHashes.j0 k a1 a2 l3 bt427.1 bt427.2 true a0_0 a0_1 a0_2 a0_3 a0_4 a0_5) else ((spec_InclusionProof.f k a1 a2).bind fun bt431 => (laws_FnInclusionHashes.j0 k a1 a2 l3 bt427.1 bt427.2 ((l3.length : Int) != (bt431.1.length : Int)) a0_0 a0_1 a0_2 a0_3 a0_4 a0_5))))) = some r := by rw [if_pos rfl] at H; exact H
   clear H
   have H := H1
   clear H1
   replace H := Option.bind_eq_some_iff.mp H
   obtain ⟨t424, A90, H⟩ := H
   replace H : ((impl_InclusionHashes.f k a0_0 a0_1 a0_2 a0_3 a0_4 a0_5 a1 a2 t424).bind fun bt427 => (if a1 ≥ a2 then (laws_FnInclusionHashes.j0 k a1 a2 l3 bt427.1 bt427.2 true a0_0 a0_1 a0_2 a0_3 a0_4 a0_5) else ((spec_InclusionProof.f k a1 a2).bind fun bt431 => (laws_FnInclusionHashes.j0 k a1 a2 l3 bt427.1 bt427.2 ((l3.length : Int) != (bt431.1.length : Int)) a0_0 a0_1 a0_2 a0_3 a0_4 a0_5)))) = some r := H
   have A9 := Aside0.mk A90
   clear A90
   replace H := Option.bind_eq_some_iff.mp H
   obtain ⟨⟨t427, t430⟩, A100, H⟩ := H
   replace H : (if a1 ≥ a2 then (laws_FnInclusionHashes.j0 k a1 a2 l3 t427 t430 true a0_0 a0_1 a0_2 a0_3 a0_4 a0_5) else ((spec_InclusionProof.f k a1 a2).bind fun bt431 => (laws_FnInclusionHashes.j0 k a1 a2 l3 t427 t430 ((l3.length : Int) != (bt431.1.length : Int)) a0_0 a0_1 a0_2 a0_3 a0_4 a0_5))) = some r := H
   have A10 := Aside0.mk A100
   clear A100
   have HC11 := Aside0.mk H
   clear H
   go_enter Tryd.func9, Tryd.ntmps9
   try go_wp2_with (first | ((with_reducible refine gate_dst (N := 4) rfl ?_); (try (refine gate_guard (by rfl) ?_; dsimp only)); refine box_event ?hg (N := 4) ?hd (cs := #[.int .i64 a0_0, .int .i64 a0_1, .int .i64 a0_2, .int .u64 a0_3, .int .u64 a0_4, .int .u64 a0_5]) (t := 37) ?hr ?_; (case hd => rfl); (case hg => rfl); (case hr => first | (go_simp; done) | (go_simp; rfl)); intro gb421 hg w12 hbox hb; have n0_ := Aside0.mk (below_step (by repeat (first | (with_reducible first | exact HB.out | apply below_alloc | apply pw_below_drewN | apply below_drew1) | exact HB.out)) hb); have n1_ := Aside0.mk (hbox); have n2_ := Aside0.mk ((by rw [hg]; exact (below_size (by repeat (first | (with_reducible first | exact HB.out | apply below_alloc | apply pw_below_drewN | apply below_drew1) | exact HB.out))) : w.heap.size ≤ gb421)); have n3_ := Aside0.mk ((by rw [hg]; exact (below_size (by repeat (first | (with_reducible first | exact HB.out | apply below_alloc | apply pw_below_drewN | apply below_drew1) | exact HB.out))) : w.heap.size ≤ gb421)); clear HB; have HB := n0_; have BK421 := n1_; have GW421 := n2_; have GE421 := n3_; clear n0_ n1_ n2_ n3_; clear hb hbox hg) | ((with_reducible refine gate_callee (f := 27) rfl ?_); refine goesL_ (some 12) rfl rfl Tryd.func27 (by kernel_rfl) rfl #[.slice A3 l3.length c3] rfl (by (try simp only [List.map_toArray, List.map_cons, List.map_nil]); first | done | rfl | (simp only [List.length_drop, List.length_take]; rfl)) ?_; (with_reducible refine (laws_zzFits2.calls k _ _ l3 true _ ?side1 ?side2 A5.out).mono ?_); (case side1 => repeat (first | exact (Kd.C_below HR3.out HB.out) | (with_reducible refine Kd.C_alloc ?_ _) | (with_reducible refine Kd.C_drewN ?_ _) | (with_reducible refine Kd.C_drew ?_))); (case side2 => exact HC3.out); rintro e w' ⟨rfl, ⟨nd, rfl⟩⟩; refine ⟨_, rfl, ?_⟩) | ((with_reducible refine gate_callee (f := 28) rfl ?_); refine goesL_ (some 15) rfl rfl Tryd.func28 (by kernel_rfl) rfl #[.slice A3 l3.length c3] rfl (by (try simp only [List.map_toArray, List.map_cons, List.map_nil]); first | done | rfl | (simp only [List.length_drop, List.length_take]; rfl)) ?_; (with_reducible refine (laws_logSmall.calls k _ _ l3 true _ ?side1 ?side2 A7.out).mono ?_); (case side1 => repeat (first | exact (Kd.C_below HR3.out (by repeat (first | (with_reducible first | exact HB.out | apply below_alloc | apply pw_below_drewN | apply below_drew1 | refine below_set ?_ GE421.out) | exact HB.out))) | (with_reducible refine Kd.C_alloc ?_ _) | (with_reducible refine Kd.C_drewN ?_ _) | (with_reducible refine Kd.C_drew ?_))); (case side2 => exact HC3.out); rintro e w' ⟨rfl, ⟨nd, rfl⟩⟩; refine ⟨_, rfl, ?_⟩))
   (try (rw [drewN_self w12]; generalize hq_ : World.drewN w12 _ = w12; have n0_ : Aside0 (w12.heap[gb421]? = some (.cells #[.int .i64 a0_0, .int .i64 a0_1, .int .i64 a0_2, .int .u64 a0_3, .int .u64 a0_4, .int .u64 a0_5] 37 (0, 0))) := ⟨by rw [← hq_]; exact (by (with_reducible repeat (first | refine blk_drewN ?_ _ | refine blk_drew ?_ | refine blk_alloc ?_ _)); exact BK421.out)⟩; have n1_ : Aside0 (Below w.heap.size w w12) := ⟨by rw [← hq_]; exact (by repeat (first | (with_reducible first | exact HB.out | apply below_alloc | apply pw_below_drewN | apply below_drew1 | refine below_set ?_ GE421.out) | exact HB.out))⟩; clear BK421 HB hq_; have BK421 := n0_; have HB := n1_; clear n0_ n1_))
   have n0_ := Aside0.mk (blk_drew BK421.out)
   have n1_ := Aside0.mk (below_drew1 HB.out)
   clear BK421
   clear HB
   have BK421 := n0_
   have HB := n1_
   clear n0_ n1_
   refine start_ (n := 11) (S := fun w' => w'.cell? ⟨gb421, 0, none⟩ = some (.int .i64 a0_0) ∧ w'.cell? ⟨gb421, 1, none⟩ = some (.int .i64 a0_1) ∧ w'.cell? ⟨gb421, 2, none⟩ = some (.int .i64 a0_2) ∧ w'.cell? ⟨gb421, 3, none⟩ = some (.int .u64 a0_3) ∧ w'.cell? ⟨gb421, 4, none⟩ = some (.int .u64 a0_4) ∧ w'.cell? ⟨gb421, 5, none⟩ = some (.int .u64 a0_5)) (ds := []) #[false, false, false, false, false, false, false, false, false, false, false] (by kernel_rfl) rfl rfl ⟨(blk_cell BK421.out 0).trans rfl, (blk_cell BK421.out 1).trans rfl, (blk_cell BK421.out 2).trans rfl, (blk_cell BK421.out 3).trans rfl, (blk_cell BK421.out 4).trans rfl, (blk_cell BK421.out 5).trans rfl⟩ (fun hHeld => ?_); refine with_tabW laws_FnInclusionHashes.tab5 laws_FnInclusionHashes.bits5 (fun HT_ HW_ => ?_)
   generalize w12.drew = w13 at BK421 HB hHeld ⊢
   refine pure_ (i := 1) (N := some 19) (v := ?_) (a' := ?_) #[false, true, false, false, false, false, false, false, false, false, false] rfl rfl (any_of HT_.out (by kernel_rfl)) (fun _ _ _ h => h) (Or.inl ⟨by rfl, ?_⟩) ?_ ?_
   rotate_left
   ·intro w'
    go_simp
    with_reducible rfl
   rotate_left
   ·simp only [Act.put, List.setIfInBounds_toArray, List.set_cons_zero, List.set_cons_succ, i64_w, i32_w]
    rfl
   refine pure_ (i := 2) (N := some 20) (v := ?_) (a' := ?_) #[false, true, true, false, false, false, false, false, false, false, false] rfl rfl (any_of HT_.out (by kernel_rfl)) (fun _ _ _ h => h) (Or.inl ⟨by rfl, ?_⟩) ?_ ?_
   rotate_left
   ·intro w'
    go_simp
    with_reducible rfl
   rotate_left
   ·simp only [Act.put, List.setIfInBounds_toArray, List.set_cons_zero, List.set_cons_succ, i64_w, i32_w]
    rfl
   refine pure_ (i := 3) (N := some 21) (v := ?_) (a' := ?_) #[false, true, true, true, false, false, false, false, false, false, false] rfl rfl (any_of HT_.out (by kernel_rfl)) (fun _ _ _ h => h) (Or.inl ⟨by rfl, ?_⟩) ?_ ?_
   rotate_left
   ·intro w'
    go_simp
    with_reducible rfl
   rotate_left
   ·simp only [Act.put, List.setIfInBounds_toArray, List.set_cons_zero, List.set_cons_succ, i64_w, i32_w]
    rfl
   refine take_ (i := 0) (N := some 18) (v := ?_) (a' := ?_) #[true, true, true, true, false, false, false, false, false, false, false] rfl rfl (take_ofW HT_.out HW_.out (by kernel_rfl)) (fun _ _ _ h => h) (Or.inl ⟨by rfl, ?_⟩) hHeld ?_ ?_
   rotate_left
   ·rintro w' ⟨s0, s1, s2, s3, s4, s5⟩
    go_simp
    with_reducible rfl
   rotate_left
   ·simp only [Act.put, List.setIfInBounds_toArray, List.set_cons_zero, List.set_cons_succ, i64_w, i32_w]
    rfl
   refine one_ (i := 4) (N := some 22) #[true, true, true, true, true, false, false, false, false, false, false] rfl rfl (one_of HT_.out (by kernel_rfl)) (by decide) (fun K hK => ?_)
   refine goes_ Tryd.func43 (by kernel_rfl) rfl #[.slice A3 l3.length c3] (by rfl) rfl rfl (by (try simp only [List.map_toArray, List.map_cons, List.map_nil]); first | done | rfl | (simp only [List.length_drop, List.length_take]; rfl)) ?_
   with_reducible refine (laws_logCopy.calls k _ _ l3 t424 _ ?side1 ?side2 A9.out).mono ?_
   (case side1 => repeat (first | exact (Kd.C_below HR3.out HB.out) | (with_reducible refine Kd.C_alloc ?_ _) | (with_reducible refine Kd.C_drewN ?_ _) | (with_reducible refine Kd.C_drew ?_)))
   (case side2 => exact HC3.out)
   rintro e w14 ⟨v425, rfl, ho0, hb⟩
   refine ⟨_, rfl, ?_⟩
   have n0_ := Aside0.mk (Kd.S_lower ho0 (below_size (by repeat (first | (with_reducible first | exact HB.out | apply below_alloc | apply pw_below_drewN | apply below_drew1 | refine below_set ?_ GE421.out) | exact HB.out))))
   have n1_ := Aside0.mk (blk_below (g := gb421) (o := .cells #[.int .i64 a0_0, .int .i64 a0_1, .int .i64 a0_2, .int .u64 a0_3, .int .u64 a0_4, .int .u64 a0_5] 37 (0, 0)) (by (with_reducible repeat (first | refine blk_drewN ?_ _ | refine blk_drew ?_ | refine blk_alloc ?_ _)); exact BK421.out) hb)
   have n2_ := Aside0.mk (below_step (by repeat (first | (with_reducible first | exact HB.out | apply below_alloc | apply pw_below_drewN | apply below_drew1 | refine below_set ?_ GE421.out) | exact HB.out)) hb)
   clear BK421
   clear HB
   have HO426 := n0_
   have BK421 := n1_
   have HB := n2_
   clear n0_ n1_ n2_
   (try clear hb)
   (try clear hb2)
   (try clear hk)
   (try clear hi)
   (try clear ho0)
   obtain ⟨Ao15, co15, eo15⟩ := Kd.S_slice HO426.out
   (first | subst eo15 | (injection eo15 with f1_ f2_ f3_; have f4_ := f1_.symm; have f5_ := f3_.symm; clear f1_ f2_ f3_; subst f4_; subst f5_))
   refine hK.out _ _ ⟨(blk_cell BK421.out 0).trans rfl, (blk_cell BK421.out 1).trans rfl, (blk_cell BK421.out 2).trans rfl, (blk_cell BK421.out 3).trans rfl, (blk_cell BK421.out 4).trans rfl, (blk_cell BK421.out 5).trans rfl⟩ (fun hHeld => ?_)
   clear hK K
   refine norm_ (a' := ?_) ?_ ?_
   rotate_left
   ·show Act.put _ (some 22) _ = _
    simp only [Act.put, List.setIfInBounds_toArray, List.set_cons_zero, List.set_cons_succ, i64_w, i32_w]
    rfl
   refine one_ (i := 5) (N := some 23) #[true, true, true, true, true, true, false, false, false, false, false] rfl rfl (one_of HT_.out (by kernel_rfl)) (by decide) (fun K hK => ?_)
   refine goes_ Tryd.func42 (by kernel_rfl) rfl #[.agg #[.int .i64 a0_0, .int .i64 a0_1, .int .i64 a0_2, .int .u64 a0_3, .int .u64 a0_4, .int .u64 a0_5], .int .u64 a1, .int .u64 a2, .slice Ao15 t424.length co15] (by rfl) rfl rfl (by (try simp only [List.map_toArray, List.map_cons, List.map_nil]); first | done | rfl | (simp only [List.length_drop, List.length_take]; rfl)) ?_
   with_reducible refine (impl_InclusionHashes.calls k a0_0 a0_1 a0_2 a0_3 a0_4 a0_5 a1 a2 _ _ t424 t427 t430 _ ?side3 ?side1 ?side2 A10.out).mono ?_
   (case side1 => repeat (first | exact (Kd.S_reads' HO426.out).2.2 | (with_reducible refine Kd.C_alloc ?_ _) | (with_reducible refine Kd.C_drewN ?_ _) | (with_reducible refine Kd.C_drew ?_)))
   (case side2 => exact (Kd.S_reads' HO426.out).2.1)
   (case side3 => exact GlobT.below hGT (by repeat (first | (with_reducible first | exact HB.out | apply below_alloc | apply pw_below_drewN | apply below_drew1 | refine below_set ?_ GE421.out) | exact HB.out)))
   rintro e w16 ⟨v428, rfl, ho0, hb⟩
   refine ⟨_, rfl, ?_⟩
   have n0_ := Aside0.mk (Kd.S_elder' (by (with_reducible repeat (first | apply Kd.S_alloc | apply Kd.S_drewN | apply Kd.S_drew)); exact HO426.out) (Kd.S_base ho0) hb)
   have n1_ := Aside0.mk (Kd.S_lower (Kd.S_new' ho0 (Kd.S_lt (by (with_reducible repeat (first | apply Kd.S_alloc | apply Kd.S_drewN | apply Kd.S_drew)); exact HO426.out))) (below_size (by repeat (first | (with_reducible first | exact HB.out | apply below_alloc | apply pw_below_drewN | apply below_drew1 | refine below_set ?_ GE421.out) | exact HB.out))))
   have n2_ := Aside0.mk (blk_below (g := gb421) (o := .cells #[.int .i64 a0_0, .int .i64 a0_1, .int .i64 a0_2, .int .u64 a0_3, .int .u64 a0_4, .int .u64 a0_5] 37 (0, 0)) (by (with_reducible repeat (first | refine blk_drewN ?_ _ | refine blk_drew ?_ | refine blk_alloc ?_ _)); exact BK421.out) hb)
   have n3_ := Aside0.mk (below_step (by repeat (first | (with_reducible first | exact HB.out | apply below_alloc | apply pw_below_drewN | apply below_drew1 | refine below_set ?_ GE421.out) | exact HB.out)) hb)
   clear HO426
   clear BK421
   clear HB
   have HO426 := n0_
   have HO429 := n1_
   have BK421 := n2_
   have HB := n3_
   clear n0_ n1_ n2_ n3_
   (try clear hb)
   (try clear hb2)
   (try clear hk)
   (try clear hi)
   (try clear ho0)
   refine hK.out _ _ ⟨(blk_cell BK421.out 0).trans rfl, (blk_cell BK421.out 1).trans rfl, (blk_cell BK421.out 2).trans rfl, (blk_cell BK421.out 3).trans rfl, (blk_cell BK421.out 4).trans rfl, (blk_cell BK421.out 5).trans rfl⟩ (fun hHeld => ?_)
   clear hK K
   refine norm_ (a' := ?_) ?_ ?_
   rotate_left
   ·show Act.put _ (some 23) _ = _
    simp only [Act.put, List.setIfInBounds_toArray, List.set_cons_zero, List.set_cons_succ, i64_w, i32_w]
    rfl
   refine pure_ (i := 6) (N := some 17) (v := ?_) (a' := ?_) #[true, true, true, true, true, true, true, false, false, false, false] rfl rfl (any_of HT_.out (by kernel_rfl)) (fun _ _ _ h => h) (Or.inl ⟨by rfl, ?_⟩) ?_ ?_
   rotate_left
   ·intro w'
    go_simp
    with_reducible rfl
   rotate_left
   ·simp only [Act.put, List.setIfInBounds_toArray, List.set_cons_zero, List.set_cons_succ, i64_w, i32_w]
    rfl
   refine pure_ (i := 7) (N := some 24) (v := ?_) (a' := ?_) #[true, true, true, true, true, true, true, true, false, false, false] rfl rfl (any_of HT_.out (by kernel_rfl)) (fun _ _ _ h => h) (Or.inl ⟨by rfl, ?_⟩) ?_ ?_
   rotate_left
   ·intro w'
    go_simp
    with_reducible rfl
   rotate_left
   ·simp only [Act.put, List.setIfInBounds_toArray, List.set_cons_zero, List.set_cons_succ, i64_w, i32_w]
    rfl
   refine pure_ (i := 8) (N := some 25) (v := ?_) (a' := ?_) #[true, true, true, true, true, true, true, true, true, false, false] rfl rfl (any_of HT_.out (by kernel_rfl)) (fun _ _ _ h => h) (Or.inl ⟨by rfl, ?_⟩) ?_ ?_
   rotate_left
   ·intro w'
    go_simp
    with_reducible rfl
   rotate_left
   ·simp only [Act.put, List.setIfInBounds_toArray, List.set_cons_zero, List.set_cons_succ, i64_w, i32_w]
    rfl
   refine pure_ (i := 9) (N := some 9) (v := ?_) (a' := ?_) #[true, true, true, true, true, true, true, true, true, true, false] rfl rfl (any_of HT_.out (by kernel_rfl)) (fun _ _ _ h => h) (Or.inl ⟨by rfl, ?_⟩) ?_ ?_
   rotate_left
   ·intro w'
    go_simp
    with_reducible rfl
   rotate_left
   ·simp only [Act.put, List.setIfInBounds_toArray, List.set_cons_zero, List.set_cons_succ, i64_w, i32_w]
    rfl
   refine pure_ (i := 10) (N := some 10) (v := ?_) (a' := ?_) #[true, true, true, true, true, true, true, true, true, true, true] rfl rfl (any_of HT_.out (by kernel_rfl)) (fun _ _ _ h => h) (Or.inl ⟨by rfl, ?_⟩) ?_ ?_
   rotate_left
   ·intro w'
    go_simp
    with_reducible rfl
   rotate_left
   ·simp only [Act.put, List.setIfInBounds_toArray, List.set_cons_zero, List.set_cons_succ, i64_w, i32_w]
    rfl
   refine done_ (done_of HT_.out (by kernel_rfl)) ?_
   go_upto_region 6 with (fail)
   go_cut [38] (fun v38 wc => ∃ (kq : Nat) (x38_10 : Bool), v38 = .bool x38_10 ∧ Aside0 (laws_FnInclusionHashes.j0 kq a1 a2 l3 t427 t430 x38_10 a0_0 a0_1 a0_2 a0_3 a0_4 a0_5 = some r) ∧ Aside0 (kq ≤ k) ∧ Aside0 (Kd.S (Kd.slice 5 (Kd.int .u8)) 42 wc w.heap.size (fun _ => True) v428 t427) ∧ Aside0 (wc.heap[gb421]? = some (.cells #[.int .i64 a0_0, .int .i64 a0_1, .int .i64 a0_2, .int .u64 a0_3, .int .u64 a0_4, .int .u64 a0_5] 37 (0, 0))) ∧ Aside0 (Below w.heap.size w wc))
   case first =>
    have H := HC11.out
    clear HC11
    by_cases c17 : a1 ≥ a2
    ·rw [if_pos c17] at H
     have c17b0 : decide (a2 ≤ a1) = true := decide_eq_true c17
     clear c17
     (first | rw [c17b0] | (simp only [i64_w, i32_w]; rw [c17b0]) | skip)
     have H' := Aside0.mk H
     clear H
     go_wp2
     go_meet
     case rel => exact ⟨_, (true), (by first | rfl | (simp; done) | (simp [*]; done)), H', ⟨by first | omega | exact Nat.le_refl _⟩, ⟨by (with_reducible repeat (first | apply Kd.S_alloc | apply Kd.S_drewN | apply Kd.S_drew)); exact Kd.S_mono HO429.out (fun _ hk => trivial)⟩, ⟨by (with_reducible repeat (first | refine blk_drewN ?_ _ | refine blk_drew ?_ | refine blk_alloc ?_ _)); exact BK421.out⟩, ⟨by repeat (first | (with_reducible first | exact HB.out | apply below_alloc | apply pw_below_drewN | apply below_drew1 | refine below_set ?_ GE421.out) | exact HB.out)⟩⟩
    ·rw [if_neg c17] at H
     have c17b0 : decide (a2 ≤ a1) = false := decide_eq_false c17
     clear c17
     (first | rw [c17b0] | (simp only [i64_w, i32_w]; rw [c17b0]) | skip)
     replace H := Option.bind_eq_some_iff.mp H
     obtain ⟨⟨t431, t434, t435, t436, t437⟩, A180, H⟩ := H
     replace H : (laws_FnInclusionHashes.j0 k a1 a2 l3 t427 t430 ((l3.length : Int) != (t431.length : Int)) a0_0 a0_1 a0_2 a0_3 a0_4 a0_5) = some r := H
     have A18 := Aside0.mk A180
     clear A180
     have H' := Aside0.mk H
     clear H
     go_wp2_with (first | (go_at_call 44; (with_reducible refine (spec_InclusionProof.calls k a1 a2 t431 t434 t435 t436 t437 _ A18.out).mono ?_); rintro e w19 ⟨v432, rfl, ho0, hb⟩; have n0_ := Aside0.mk (Kd.S_below (by (with_reducible repeat (first | apply Kd.S_alloc | apply Kd.S_drewN | apply Kd.S_drew)); exact HO426.out) hb); have n1_ := Aside0.mk (Kd.S_below (by (with_reducible repeat (first | apply Kd.S_alloc | apply Kd.S_drewN | apply Kd.S_drew)); exact HO429.out) hb); have n2_ := Aside0.mk (Kd.R_lower ho0 (below_size (by repeat (first | (with_reducible first | exact HB.out | apply below_alloc | apply pw_below_drewN | apply below_drew1 | refine below_set ?_ GE421.out) | exact HB.out)))); have n3_ := Aside0.mk (blk_below (g := gb421) (o := .cells #[.int .i64 a0_0, .int .i64 a0_1, .int .i64 a0_2, .int .u64 a0_3, .int .u64 a0_4, .int .u64 a0_5] 37 (0, 0)) (by (with_reducible repeat (first | refine blk_drewN ?_ _ | refine blk_drew ?_ | refine blk_alloc ?_ _)); exact BK421.out) hb); have n4_ := Aside0.mk (below_step (by repeat (first | (with_reducible first | exact HB.out | apply below_alloc | apply pw_below_drewN | apply below_drew1 | refine below_set ?_ GE421.out) | exact HB.out)) hb); clear HO426; clear HO429; clear BK421; clear HB; have HO426 := n0_; have HO429 := n1_; have HO433 := n2_; have BK421 := n3_; have HB := n4_; clear n0_ n1_ n2_ n3_ n4_; (try clear hb); (try clear hb2); (try clear hk); (try clear hi); (try clear ho0); obtain ⟨Ao20, co20, eo20⟩ := Kd.R_slice HO433.out; subst eo20))
     go_meet
     case rel => exact ⟨_, (((l3.length : Int) != (t431.length : Int))), (by first | rfl | (simp; done) | (simp [*]; done)), H', ⟨by first | omega | exact Nat.le_refl _⟩, ⟨by (with_reducible repeat (first | apply Kd.S_alloc | apply Kd.S_drewN | apply Kd.S_drew)); exact Kd.S_mono HO429.out (fun _ hk => trivial)⟩, ⟨by (with_reducible repeat (first | refine blk_drewN ?_ _ | refine blk_drew ?_ | refine blk_alloc ?_ _)); exact BK421.out⟩, ⟨by repeat (first | (with_reducible first | exact HB.out | apply below_alloc | apply pw_below_drewN | apply below_drew1 | refine below_set ?_ GE421.out) | exact HB.out)⟩⟩
   case rest =>
    clear HC11
    try clear c1
    try clear c2
    try clear p2
    try clear c3
    try clear c4
    try clear c6
    try clear c8
    try clear c9
    try clear c17
    try clear c17b0
    obtain ⟨kq, x38_10, rfl, HA, HJ10, HO_9, BK421, HB⟩ := hcut
    cases kq with
    | zero => exact absurd HA.out (by simp [laws_FnInclusionHashes.j0])
    | succ kj10 =>
     have H := HA.out
     clear HA
     simp only [laws_FnInclusionHashes.j0] at H
     by_cases c21 : x38_10 = true
     ·subst c21
      have H1 : (some (!t430)) = some r := by rw [if_pos rfl] at H; exact H
      clear H
      have H := H1
      clear H1
      obtain rfl := Option.some.inj H
      go_wp2
      go_ret
      exact ⟨by first | rfl | (simp [errW_none, errW_some] <;> rfl) | (simp [*, errW_none, errW_some] <;> rfl), by repeat (first | (with_reducible first | exact HB.out | apply below_alloc | apply pw_below_drewN | apply below_drew1 | refine below_set ?_ GE421.out) | exact HB.out)⟩
     ·replace c21 := Bool.eq_false_iff.mpr c21
      subst c21
      have H1 : (if t430 = true then ((spec_InclusionProof.f kj10 a1 a2).bind fun bt438 => ((spec_Folded.f kj10 a0_0 a0_1 a0_2 a0_3 a0_4 a0_5 bt438.1 bt438.2.1 bt438.2.2.1 bt438.2.2.2.1 bt438.2.2.2.2 l3).bind fun t445 => ((spec_Same.f kj10 t427 t445).bind fun t448 => (some t448)))) else (some false)) = some r := by rw [if_neg (show ¬ (false = true) by decide)] at H; exact H
      clear H
      have H := H1
      clear H1
      by_cases c22 : t430 = true
      ·subst c22
       have H1 : ((spec_InclusionProof.f kj10 a1 a2).bind fun bt438 => ((spec_Folded.f kj10 a0_0 a0_1 a0_2 a0_3 a0_4 a0_5 bt438.1 bt438.2.1 bt438.2.2.1 bt438.2.2.2.1 bt438.2.2.2.2 l3).bind fun t445 => ((spec_Same.f kj10 t427 t445).bind fun t448 => (some t448)))) = some r := by rw [if_pos rfl] at H; exact H
       clear H
       have H := H1
       clear H1
       replace H := Option.bind_eq_some_iff.mp H
       obtain ⟨⟨t438, t441, t442, t443, t444⟩, A230, H⟩ := H
       replace H : ((spec_Folded.f kj10 a0_0 a0_1 a0_2 a0_3 a0_4 a0_5 t438 t441 t442 t443 t444 l3).bind fun t445 => ((spec_Same.f kj10 t427 t445).bind fun t448 => (some t448))) = some r := H
       have A23 := Aside0.mk A230
       clear A230
       replace H := Option.bind_eq_some_iff.mp H
       obtain ⟨t445, A240, H⟩ := H
       replace H : ((spec_Same.f kj10 t427 t445).bind fun t448 => (some t448)) = some r := H
       have A24 := Aside0.mk A240
       clear A240
       replace H := Option.bind_eq_some_iff.mp H
       obtain ⟨t448, A250, H⟩ := H
       replace H : (some t448) = some r := H
       have A25 := Aside0.mk A250
       clear A250
       obtain rfl := Option.some.inj H
       try go_wp2
       have n0_ := Aside0.mk (Kd.S_drew HO_9.out)
       have n1_ := Aside0.mk (blk_drew BK421.out)
       have n2_ := Aside0.mk (below_drew1 HB.out)
       clear HO_9
       clear BK421
       clear HB
       have HO_9 := n0_
       have BK421 := n1_
       have HB := n2_
       clear n0_ n1_ n2_
       refine start_ (n := 12) (S := fun w' => w'.cell? ⟨gb421, 0, none⟩ = some (.int .i64 a0_0) ∧ w'.cell? ⟨gb421, 1, none⟩ = some (.int .i64 a0_1) ∧ w'.cell? ⟨gb421, 2, none⟩ = some (.int .i64 a0_2) ∧ w'.cell? ⟨gb421, 3, none⟩ = some (.int .u64 a0_3) ∧ w'.cell? ⟨gb421, 4, none⟩ = some (.int .u64 a0_4) ∧ w'.cell? ⟨gb421, 5, none⟩ = some (.int .u64 a0_5)) (ds := []) #[false, false, false, false, false, false, false, false, false, false, false, false] (by kernel_rfl) rfl rfl ⟨(blk_cell BK421.out 0).trans rfl, (blk_cell BK421.out 1).trans rfl, (blk_cell BK421.out 2).trans rfl, (blk_cell BK421.out 3).trans rfl, (blk_cell BK421.out 4).trans rfl, (blk_cell BK421.out 5).trans rfl⟩ (fun hHeld => ?_); refine with_tabW laws_FnInclusionHashes.tab8 laws_FnInclusionHashes.bits8 (fun HT_ HW_ => ?_)
       generalize wc.drew = w26 at HO_9 BK421 HB hHeld ⊢
       refine pure_ (i := 0) (N := some 41) (v := ?_) (a' := ?_) #[true, false, false, false, false, false, false, false, false, false, false, false] rfl rfl (any_of HT_.out (by kernel_rfl)) (fun _ _ _ h => h) (Or.inl ⟨by rfl, ?_⟩) ?_ ?_
       rotate_left
       ·intro w'
        go_simp
        with_reducible rfl
       rotate_left
       ·simp only [Act.put, List.setIfInBounds_toArray, List.set_cons_zero, List.set_cons_succ, i64_w, i32_w]
        rfl
       refine pure_ (i := 1) (N := some 42) (v := ?_) (a' := ?_) #[true, true, false, false, false, false, false, false, false, false, false, false] rfl rfl (any_of HT_.out (by kernel_rfl)) (fun _ _ _ h => h) (Or.inl ⟨by rfl, ?_⟩) ?_ ?_
       rotate_left
       ·intro w'
        go_simp
        with_reducible rfl
       rotate_left
       ·simp only [Act.put, List.setIfInBounds_toArray, List.set_cons_zero, List.set_cons_succ, i64_w, i32_w]
        rfl
       refine pure_ (i := 2) (N := some 43) (v := ?_) (a' := ?_) #[true, true, true, false, false, false, false, false, false, false, false, false] rfl rfl (any_of HT_.out (by kernel_rfl)) (fun _ _ _ h => h) (Or.inl ⟨by rfl, ?_⟩) ?_ ?_
       rotate_left
       ·intro w'
        go_simp
        with_reducible rfl
       rotate_left
       ·simp only [Act.put, List.setIfInBounds_toArray, List.set_cons_zero, List.set_cons_succ, i64_w, i32_w]
        rfl
       refine pure_ (i := 4) (N := some 45) (v := ?_) (a' := ?_) #[true, true, true, false, true, false, false, false, false, false, false, false] rfl rfl (any_of HT_.out (by kernel_rfl)) (fun _ _ _ h => h) (Or.inl ⟨by rfl, ?_⟩) ?_ ?_
       rotate_left
       ·intro w'
        go_simp
        with_reducible rfl
       rotate_left
       ·simp only [Act.put, List.setIfInBounds_toArray, List.set_cons_zero, List.set_cons_succ, i64_w, i32_w]
        rfl
       refine pure_ (i := 5) (N := some 46) (v := ?_) (a' := ?_) #[true, true, true, false, true, true, false, false, false, false, false, false] rfl rfl (any_of HT_.out (by kernel_rfl)) (fun _ _ _ h => h) (Or.inl ⟨by rfl, ?_⟩) ?_ ?_
       rotate_left
       ·intro w'
        go_simp
        with_reducible rfl
       rotate_left
       ·simp only [Act.put, List.setIfInBounds_toArray, List.set_cons_zero, List.set_cons_succ, i64_w, i32_w]
        rfl
       refine pure_ (i := 7) (N := some 48) (v := ?_) (a' := ?_) #[true, true, true, false, true, true, false, true, false, false, false, false] rfl rfl (any_of HT_.out (by kernel_rfl)) (fun _ _ _ h => h) (Or.inl ⟨by rfl, ?_⟩) ?_ ?_
       rotate_left
       ·intro w'
        go_simp
        with_reducible rfl
       rotate_left
       ·simp only [Act.put, List.setIfInBounds_toArray, List.set_cons_zero, List.set_cons_succ, i64_w, i32_w]
        rfl
       refine take_ (i := 3) (N := some 44) (v := ?_) (a' := ?_) #[true, true, true, true, true, true, false, true, false, false, false, false] rfl rfl (take_ofW HT_.out HW_.out (by kernel_rfl)) (fun _ _ _ h => h) (Or.inl ⟨by rfl, ?_⟩) hHeld ?_ ?_
       rotate_left
       ·rintro w' ⟨s0, s1, s2, s3, s4, s5⟩
        go_simp
        with_reducible rfl
       rotate_left
       ·simp only [Act.put, List.setIfInBounds_toArray, List.set_cons_zero, List.set_cons_succ, i64_w, i32_w]
        rfl
       refine one_ (i := 6) (N := some 47) #[true, true, true, true, true, true, true, true, false, false, false, false] rfl rfl (one_of HT_.out (by kernel_rfl)) (by decide) (fun K hK => ?_)
       refine goes_ Tryd.func44 (by kernel_rfl) rfl #[.int .u64 a1, .int .u64 a2] (by rfl) rfl rfl (by (try simp only [List.map_toArray, List.map_cons, List.map_nil]); first | done | rfl | (simp only [List.length_drop, List.length_take]; rfl)) ?_
       with_reducible refine (spec_InclusionProof.calls kj10 a1 a2 t438 t441 t442 t443 t444 _ A23.out).mono ?_
       rintro e w27 ⟨v439, rfl, ho0, hb⟩
       refine ⟨_, rfl, ?_⟩
       have n0_ := Aside0.mk (Kd.S_below (by (with_reducible repeat (first | apply Kd.S_alloc | apply Kd.S_drewN | apply Kd.S_drew)); exact HO_9.out) hb)
       have n1_ := Aside0.mk (Kd.R_lower ho0 (below_size (by repeat (first | (with_reducible first | exact HB.out | apply below_alloc | apply pw_below_drewN | apply below_drew1 | refine below_set ?_ GE421.out) | exact HB.out))))
       have n2_ := Aside0.mk (blk_below (g := gb421) (o := .cells #[.int .i64 a0_0, .int .i64 a0_1, .int .i64 a0_2, .int .u64 a0_3, .int .u64 a0_4, .int .u64 a0_5] 37 (0, 0)) (by (with_reducible repeat (first | refine blk_drewN ?_ _ | refine blk_drew ?_ | refine blk_alloc ?_ _)); exact BK421.out) hb)
       have n3_ := Aside0.mk (below_step (by repeat (first | (with_reducible first | exact HB.out | apply below_alloc | apply pw_below_drewN | apply below_drew1 | refine below_set ?_ GE421.out) | exact HB.out)) hb)
       clear HO_9
       clear BK421
       clear HB
       have HO_9 := n0_
       have HO440 := n1_
       have BK421 := n2_
       have HB := n3_
       clear n0_ n1_ n2_ n3_
       (try clear hb)
       (try clear hb2)
       (try clear hk)
       (try clear hi)
       (try clear ho0)
       obtain ⟨Ao28, co28, eo28⟩ := Kd.R_slice HO440.out
       (first | subst eo28 | (injection eo28 with f1_ f2_ f3_; have f4_ := f1_.symm; have f5_ := f3_.symm; clear f1_ f2_ f3_; subst f4_; subst f5_))
       refine hK.out _ _ ⟨(blk_cell BK421.out 0).trans rfl, (blk_cell BK421.out 1).trans rfl, (blk_cell BK421.out 2).trans rfl, (blk_cell BK421.out 3).trans rfl, (blk_cell BK421.out 4).trans rfl, (blk_cell BK421.out 5).trans rfl⟩ (fun hHeld => ?_)
       clear hK K
       refine norm_ (a' := ?_) ?_ ?_
       rotate_left
       ·show Act.put _ (some 47) _ = _
        simp only [Act.put, List.setIfInBounds_toArray, List.set_cons_zero, List.set_cons_succ, i64_w, i32_w]
        rfl
       refine one_ (i := 8) (N := some 49) #[true, true, true, true, true, true, true, true, true, false, false, false] rfl rfl (one_of HT_.out (by kernel_rfl)) (by decide) (fun K hK => ?_)
       refine goes_ Tryd.func45 (by kernel_rfl) rfl #[.agg #[.int .i64 a0_0, .int .i64 a0_1, .int .i64 a0_2, .int .u64 a0_3, .int .u64 a0_4, .int .u64 a0_5], .agg #[.slice Ao28 t438.length co28, .int .u64 t441, .int .u64 t442, .int .i64 t443, .int .i64 t444], .slice A3 l3.length c3] (by rfl) rfl rfl (by (try simp only [List.map_toArray, List.map_cons, List.map_nil]); first | done | rfl | (simp only [List.length_drop, List.length_take]; rfl)) ?_
       with_reducible refine (spec_Folded.calls kj10 a0_0 a0_1 a0_2 a0_3 a0_4 a0_5 _ _ t438 t441 t442 t443 t444 (fun k_ => k_ < w.heap.size) _ _ l3 t445 _ ?side1 ?side2 ?side3 A24.out).mono ?_
       (case side1 => repeat (first | exact (Kd.R_reads' HO440.out).2.2 | (with_reducible refine Kd.C_alloc ?_ _) | (with_reducible refine Kd.C_drewN ?_ _) | (with_reducible refine Kd.C_drew ?_)))
       (case side2 => exact (Kd.R_reads' HO440.out).2.1)
       (case side3 => exact Kd.V_mk HC3.out (Kd.F_below (Kd.C_F (Kd.heap_slice 5 (Kd.heap_int .u8)) HR3.out) (by repeat (first | (with_reducible first | exact HB.out | apply below_alloc | apply pw_below_drewN | apply below_drew1 | refine below_set ?_ GE421.out) | exact HB.out))))
       rintro e w29 ⟨v446, rfl, ho0, hb⟩
       refine ⟨_, rfl, ?_⟩
       have n0_ := Aside0.mk (Kd.S_below (by (with_reducible repeat (first | apply Kd.S_alloc | apply Kd.S_drewN | apply Kd.S_drew)); exact HO_9.out) hb)
       have n1_ := Aside0.mk (Kd.R_below (by (with_reducible repeat (first | apply Kd.R_alloc | apply Kd.R_drewN | apply Kd.R_drew)); exact HO440.out) hb)
       have n2_ := Aside0.mk (Kd.V_lower (Kd.V_mono (ok' := fun k_ => some k_ ≠ (v428 : Value).ownBlock ∧ some k_ ≠ (.slice Ao28 t438.length co28 : Value).ownBlock ∧ k_ ≠ gb421) ho0 (fun k_ hk_ => ⟨Or.elim hk_ (fun hs_ => fun e_ => Nat.not_le.2 hs_ (Kd.S_base HO_9.out k_ e_.symm)) (fun hn_ => (Kd.fresh' (Kd.S_lt (by (with_reducible repeat (first | apply Kd.S_alloc | apply Kd.S_drewN | apply Kd.S_drew)); exact HO_9.out)) k_ hn_)), Or.elim hk_ (fun hs_ => fun e_ => Nat.not_le.2 hs_ (Kd.R_base HO440.out k_ e_.symm)) (fun hn_ => (Kd.fresh' (Kd.R_lt (by (with_reducible repeat (first | apply Kd.R_alloc | apply Kd.R_drewN | apply Kd.R_drew)); exact HO440.out)) k_ hn_)), Or.elim hk_ (fun hs_ => fun e_ => Nat.not_le.2 hs_ (by rw [e_]; exact GW421.out)) (fun hn_ => (Kd.freshB (g := gb421) (o := .cells #[.int .i64 a0_0, .int .i64 a0_1, .int .i64 a0_2, .int .u64 a0_3, .int .u64 a0_4, .int .u64 a0_5] 37 (0, 0)) (by (with_reducible repeat (first | refine blk_drewN ?_ _ | refine blk_drew ?_ | refine blk_alloc ?_ _)); exact BK421.out) k_ hn_))⟩)) (below_size (by repeat (first | (with_reducible first | exact HB.out | apply below_alloc | apply pw_below_drewN | apply below_drew1 | refine below_set ?_ GE421.out) | exact HB.out))))
       have n3_ := Aside0.mk (blk_below (g := gb421) (o := .cells #[.int .i64 a0_0, .int .i64 a0_1, .int .i64 a0_2, .int .u64 a0_3, .int .u64 a0_4, .int .u64 a0_5] 37 (0, 0)) (by (with_reducible repeat (first | refine blk_drewN ?_ _ | refine blk_drew ?_ | refine blk_alloc ?_ _)); exact BK421.out) hb)
       have n4_ := Aside0.mk (below_step (by repeat (first | (with_reducible first | exact HB.out | apply below_alloc | apply pw_below_drewN | apply below_drew1 | refine below_set ?_ GE421.out) | exact HB.out)) hb)
       clear HO_9
       clear HO440
       clear BK421
       clear HB
       have HO_9 := n0_
       have HO440 := n1_
       have HO447 := n2_
       have BK421 := n3_
       have HB := n4_
       clear n0_ n1_ n2_ n3_ n4_
       (try clear hb)
       (try clear hb2)
       (try clear hk)
       (try clear hi)
       (try clear ho0)
       obtain ⟨Ao30, co30, eo30⟩ := Kd.S_slice HO_9.out
       (first | subst eo30 | (injection eo30 with f1_ f2_ f3_; have f4_ := f1_.symm; have f5_ := f3_.symm; clear f1_ f2_ f3_; subst f4_; subst f5_))
       obtain ⟨Ao31, co31, eo31⟩ := Kd.V_slice HO447.out
       (first | subst eo31 | (injection eo31 with f1_ f2_ f3_; have f4_ := f1_.symm; have f5_ := f3_.symm; clear f1_ f2_ f3_; subst f4_; subst f5_))
       refine hK.out _ _ ⟨(blk_cell BK421.out 0).trans rfl, (blk_cell BK421.out 1).trans rfl, (blk_cell BK421.out 2).trans rfl, (blk_cell BK421.out 3).trans rfl, (blk_cell BK421.out 4).trans rfl, (blk_cell BK421.out 5).trans rfl⟩ (fun hHeld => ?_)
       clear hK K
       refine norm_ (a' := ?_) ?_ ?_
       rotate_left
       ·show Act.put _ (some 49) _ = _
        simp only [Act.put, List.setIfInBounds_toArray, List.set_cons_zero, List.set_cons_succ, i64_w, i32_w]
        rfl
       refine one_ (i := 9) (N := some 50) #[true, true, true, true, true, true, true, true, true, true, false, false] rfl rfl (one_of HT_.out (by kernel_rfl)) (by decide) (fun K hK => ?_)
       refine goes_ Tryd.func31 (by kernel_rfl) rfl #[.slice Ao30 t427.length co30, .slice Ao31 t445.length co31] (by rfl) rfl rfl (by (try simp only [List.map_toArray, List.map_cons, List.map_nil]); first | done | rfl | (simp only [List.length_drop, List.length_take]; rfl)) ?_
       with_reducible refine (spec_Same.calls kj10 _ _ t427 _ _ t445 t448 _ ?side1 ?side2 ?side3 ?side4 A25.out).mono ?_
       (case side1 => repeat (first | exact (Kd.S_reads' HO_9.out).2.2 | (with_reducible refine Kd.C_alloc ?_ _) | (with_reducible refine Kd.C_drewN ?_ _) | (with_reducible refine Kd.C_drew ?_)))
       (case side2 => exact (Kd.S_reads' HO_9.out).2.1)
       (case side3 => repeat (first | exact (Kd.V_reads' HO447.out).2.2 | (with_reducible refine Kd.C_alloc ?_ _) | (with_reducible refine Kd.C_drewN ?_ _) | (with_reducible refine Kd.C_drew ?_)))
       (case side4 => exact (Kd.V_reads' HO447.out).2.1)
       rintro e w' ⟨rfl, ⟨nd, rfl⟩⟩
       refine ⟨_, rfl, ?_⟩
       refine hK.out _ _ ⟨(blk_cell BK421.out 0).trans rfl, (blk_cell BK421.out 1).trans rfl, (blk_cell BK421.out 2).trans rfl, (blk_cell BK421.out 3).trans rfl, (blk_cell BK421.out 4).trans rfl, (blk_cell BK421.out 5).trans rfl⟩ (fun hHeld => ?_)
       clear hK K
       refine norm_ (a' := ?_) ?_ ?_
       rotate_left
       ·show Act.put _ (some 50) _ = _
        simp only [Act.put, List.setIfInBounds_toArray, List.set_cons_zero, List.set_cons_succ, i64_w, i32_w]
        rfl
       refine pure_ (i := 10) (N := some 51) (v := ?_) (a' := ?_) #[true, true, true, true, true, true, true, true, true, true, true, false] rfl rfl (any_of HT_.out (by kernel_rfl)) (fun _ _ _ h => h) (Or.inl ⟨by rfl, ?_⟩) ?_ ?_
       rotate_left
       ·intro w'
        go_simp
        with_reducible rfl
       rotate_left
       ·simp only [Act.put, List.setIfInBounds_toArray, List.set_cons_zero, List.set_cons_succ, i64_w, i32_w]
        rfl
       refine pure_ (i := 11) (N := some 8) (v := ?_) (a' := ?_) #[true, true, true, true, true, true, true, true, true, true, true, true] rfl rfl (any_of HT_.out (by kernel_rfl)) (fun _ _ _ h => h) (Or.inl ⟨by rfl, ?_⟩) ?_ ?_
       rotate_left
       ·intro w'
        go_simp
        with_reducible rfl
       rotate_left
       ·simp only [Act.put, List.setIfInBounds_toArray, List.set_cons_zero, List.set_cons_succ, i64_w, i32_w]
        rfl
       refine done_ (done_of HT_.out (by kernel_rfl)) ?_
       try go_wp2
       go_ret
       exact ⟨by first | rfl | (simp [errW_none, errW_some] <;> rfl) | (simp [*, errW_none, errW_some] <;> rfl), by repeat (first | (with_reducible first | exact HB.out | apply below_alloc | apply pw_below_drewN | apply below_drew1 | refine below_set ?_ GE421.out) | exact HB.out)⟩
      ·replace c22 := Bool.eq_false_iff.mpr c22
       subst c22
       have H1 : (some false) = some r := by rw [if_neg (show ¬ (false = true) by decide)] at H; exact H
       clear H
       have H := H1
       clear H1
       obtain rfl := Option.some.inj H
       try go_wp2
       have n0_ := Aside0.mk (Kd.S_drew HO_9.out)
       have n1_ := Aside0.mk (blk_drew BK421.out)
       have n2_ := Aside0.mk (below_drew1 HB.out)
       clear HO_9
       clear BK421
       clear HB
       have HO_9 := n0_
       have BK421 := n1_
       have HB := n2_
       clear n0_ n1_ n2_
       refine start_ (n := 12) (S := fun w' => True) (ds := []) #[false, false, false, false, false, false, false, false, false, false, false, false] (by kernel_rfl) rfl rfl trivial (fun hHeld => ?_); refine with_tabW laws_FnInclusionHashes.tab8 laws_FnInclusionHashes.bits8 (fun HT_ HW_ => ?_)
       generalize wc.drew = w32 at HO_9 BK421 HB hHeld ⊢
       refine pure_ (i := 0) (N := some 41) (v := ?_) (a' := ?_) #[true, false, false, false, false, false, false, false, false, false, false, false] rfl rfl (any_of HT_.out (by kernel_rfl)) (fun _ _ _ h => h) (Or.inl ⟨by rfl, ?_⟩) ?_ ?_
       rotate_left
       ·intro w'
        go_simp
        with_reducible rfl
       rotate_left
       ·simp only [Act.put, List.setIfInBounds_toArray, List.set_cons_zero, List.set_cons_succ, i64_w, i32_w]
        rfl
       refine pure_ (i := 1) (N := some 42) (v := ?_) (a' := ?_) #[true, true, false, false, false, false, false, false, false, false, false, false] rfl rfl (any_of HT_.out (by kernel_rfl)) (fun _ _ _ h => h) (Or.inl ⟨by rfl, ?_⟩) ?_ ?_
       rotate_left
       ·intro w'
        go_simp
        with_reducible rfl
       rotate_left
       ·simp only [Act.put, List.setIfInBounds_toArray, List.set_cons_zero, List.set_cons_succ, i64_w, i32_w]
        rfl
       refine pure_ (i := 2) (N := some 43) (v := undef) (a' := ?_) #[true, true, true, false, false, false, false, false, false, false, false, false] rfl rfl (any_of HT_.out (by kernel_rfl)) (fun _ _ _ h => h) (Or.inr ⟨by rfl, rfl⟩) ?_ ?_
       rotate_left
       ·simp only [Act.put, List.setIfInBounds_toArray, List.set_cons_zero, List.set_cons_succ, i64_w, i32_w]
        rfl
       refine pure_ (i := 3) (N := some 44) (v := undef) (a' := ?_) #[true, true, true, true, false, false, false, false, false, false, false, false] rfl rfl (any_of HT_.out (by kernel_rfl)) (fun _ _ _ h => h) (Or.inr ⟨by rfl, rfl⟩) ?_ ?_
       rotate_left
       ·simp only [Act.put, List.setIfInBounds_toArray, List.set_cons_zero, List.set_cons_succ, i64_w, i32_w]
        rfl
       refine pure_ (i := 4) (N := some 45) (v := undef) (a' := ?_) #[true, true, true, true, true, false, false, false, false, false, false, false] rfl rfl (any_of HT_.out (by kernel_rfl)) (fun _ _ _ h => h) (Or.inr ⟨by rfl, rfl⟩) ?_ ?_
       rotate_left
       ·simp only [Act.put, List.setIfInBounds_toArray, List.set_cons_zero, List.set_cons_succ, i64_w, i32_w]
        rfl
       refine pure_ (i := 5) (N := some 46) (v := undef) (a' := ?_) #[true, true, true, true, true, true, false, false, false, false, false, false] rfl rfl (any_of HT_.out (by kernel_rfl)) (fun _ _ _ h => h) (Or.inr ⟨by rfl, rfl⟩) ?_ ?_
       rotate_left
       ·simp only [Act.put, List.setIfInBounds_toArray, List.set_cons_zero, List.set_cons_succ, i64_w, i32_w]
        rfl
       refine pure_ (i := 6) (N := some 47) (v := undef) (a' := ?_) #[true, true, true, true, true, true, true, false, false, false, false, false] rfl rfl (any_of HT_.out (by kernel_rfl)) (fun _ _ _ h => h) (Or.inr ⟨by rfl, rfl⟩) ?_ ?_
       rotate_left
       ·simp only [Act.put, List.setIfInBounds_toArray, List.set_cons_zero, List.set_cons_succ, i64_w, i32_w]
        rfl
       refine pure_ (i := 7) (N := some 48) (v := undef) (a' := ?_) #[true, true, true, true, true, true, true, true, false, false, false, false] rfl rfl (any_of HT_.out (by kernel_rfl)) (fun _ _ _ h => h) (Or.inr ⟨by rfl, rfl⟩) ?_ ?_
       rotate_left
       ·simp only [Act.put, List.setIfInBounds_toArray, List.set_cons_zero, List.set_cons_succ, i64_w, i32_w]
        rfl
       refine pure_ (i := 8) (N := some 49) (v := undef) (a' := ?_) #[true, true, true, true, true, true, true, true, true, false, false, false] rfl rfl (any_of HT_.out (by kernel_rfl)) (fun _ _ _ h => h) (Or.inr ⟨by rfl, rfl⟩) ?_ ?_
       rotate_left
       ·simp only [Act.put, List.setIfInBounds_toArray, List.set_cons_zero, List.set_cons_succ, i64_w, i32_w]
        rfl
       refine pure_ (i := 9) (N := some 50) (v := undef) (a' := ?_) #[true, true, true, true, true, true, true, true, true, true, false, false] rfl rfl (any_of HT_.out (by kernel_rfl)) (fun _ _ _ h => h) (Or.inr ⟨by rfl, rfl⟩) ?_ ?_
       rotate_left
       ·simp only [Act.put, List.setIfInBounds_toArray, List.set_cons_zero, List.set_cons_succ, i64_w, i32_w]
        rfl
       refine pure_ (i := 10) (N := some 51) (v := ?_) (a' := ?_) #[true, true, true, true, true, true, true, true, true, true, true, false] rfl rfl (any_of HT_.out (by kernel_rfl)) (fun _ _ _ h => h) (Or.inl ⟨by rfl, ?_⟩) ?_ ?_
       rotate_left
       ·intro w'
        go_simp
        with_reducible rfl
       rotate_left
       ·simp only [Act.put, List.setIfInBounds_toArray, List.set_cons_zero, List.set_cons_succ, i64_w, i32_w]
        rfl
       refine pure_ (i := 11) (N := some 8) (v := ?_) (a' := ?_) #[true, true, true, true, true, true, true, true, true, true, true, true] rfl rfl (any_of HT_.out (by kernel_rfl)) (fun _ _ _ h => h) (Or.inl ⟨by rfl, ?_⟩) ?_ ?_
       rotate_left
       ·intro w'
        go_simp
        with_reducible rfl
       rotate_left
       ·simp only [Act.put, List.setIfInBounds_toArray, List.set_cons_zero, List.set_cons_succ, i64_w, i32_w]
        rfl
       refine done_ (done_of HT_.out (by kernel_rfl)) ?_
       try go_wp2
       go_ret
       exact ⟨by first | rfl | (simp [errW_none, errW_some] <;> rfl) | (simp [*, errW_none, errW_some] <;> rfl), by repeat (first | (with_reducible first | exact HB.out | apply below_alloc | apply pw_below_drewN | apply below_drew1 | refine below_set ?_ GE421.out) | exact HB.out)⟩
  ·replace c8 := Bool.eq_false_iff.mpr c8
   subst c8
   have H1 : (some true) = some r := by rw [if_neg (show ¬ (false = true) by decide)] at H; exact H
   clear H
   have H := H1
   clear H1
   obtain rfl := Option.some.inj H
   go_enter Tryd.func9, Tryd.ntmps9
   go_wp2_with (first | ((with_reducible refine gate_dst (N := 4) rfl ?_); (try (refine gate_guard (by rfl) ?_; dsimp only)); refine box_event ?hg (N := 4) ?hd (cs := #[.int .i64 a0_0, .int .i64 a0_1, .int .i64 a0_2, .int .u64 a0_3, .int .u64 a0_4, .int .u64 a0_5]) (t := 37) ?hr ?_; (case hd => rfl); (case hg => rfl); (case hr => first | (go_simp; done) | (go_simp; rfl)); intro gb421 hg w33 hbox hb; have n0_ := Aside0.mk (below_step (by repeat (first | (with_reducible first | exact HB.out | apply below_alloc | apply pw_below_drewN | apply below_drew1) | exact HB.out)) hb); have n1_ := Aside0.mk (hbox); have n2_ := Aside0.mk ((by rw [hg]; exact (below_size (by repeat (first | (with_reducible first | exact HB.out | apply below_alloc | apply pw_below_drewN | apply below_drew1) | exact HB.out))) : w.heap.size ≤ gb421)); have n3_ := Aside0.mk ((by rw [hg]; exact (below_size (by repeat (first | (with_reducible first | exact HB.out | apply below_alloc | apply pw_below_drewN | apply below_drew1) | exact HB.out))) : w.heap.size ≤ gb421)); clear HB; have HB := n0_; have BK421 := n1_; have GW421 := n2_; have GE421 := n3_; clear n0_ n1_ n2_ n3_; clear hb hbox hg) | ((with_reducible refine gate_callee (f := 27) rfl ?_); refine goesL_ (some 12) rfl rfl Tryd.func27 (by kernel_rfl) rfl #[.slice A3 l3.length c3] rfl (by (try simp only [List.map_toArray, List.map_cons, List.map_nil]); first | done | rfl | (simp only [List.length_drop, List.length_take]; rfl)) ?_; (with_reducible refine (laws_zzFits2.calls k _ _ l3 true _ ?side1 ?side2 A5.out).mono ?_); (case side1 => repeat (first | exact (Kd.C_below HR3.out HB.out) | (with_reducible refine Kd.C_alloc ?_ _) | (with_reducible refine Kd.C_drewN ?_ _) | (with_reducible refine Kd.C_drew ?_))); (case side2 => exact HC3.out); rintro e w' ⟨rfl, ⟨nd, rfl⟩⟩; refine ⟨_, rfl, ?_⟩) | ((with_reducible refine gate_callee (f := 28) rfl ?_); refine goesL_ (some 15) rfl rfl Tryd.func28 (by kernel_rfl) rfl #[.slice A3 l3.length c3] rfl (by (try simp only [List.map_toArray, List.map_cons, List.map_nil]); first | done | rfl | (simp only [List.length_drop, List.length_take]; rfl)) ?_; (with_reducible refine (laws_logSmall.calls k _ _ l3 false _ ?side1 ?side2 A7.out).mono ?_); (case side1 => repeat (first | exact (Kd.C_below HR3.out (by repeat (first | (with_reducible first | exact HB.out | apply below_alloc | apply pw_below_drewN | apply below_drew1 | refine below_set ?_ GE421.out) | exact HB.out))) | (with_reducible refine Kd.C_alloc ?_ _) | (with_reducible refine Kd.C_drewN ?_ _) | (with_reducible refine Kd.C_drew ?_))); (case side2 => exact HC3.out); rintro e w' ⟨rfl, ⟨nd, rfl⟩⟩; refine ⟨_, rfl, ?_⟩))
   go_ret
   exact ⟨by first | rfl | (simp [errW_none, errW_some] <;> rfl) | (simp [*, errW_none, errW_some] <;> rfl), by repeat (first | (with_reducible first | exact HB.out | apply below_alloc | apply pw_below_drewN | apply below_drew1 | refine below_set ?_ GE421.out) | exact HB.out)⟩
 ·replace c6 := Bool.eq_false_iff.mpr c6
  subst c6
  have H1 : (some true) = some r := by rw [if_neg (show ¬ (false = true) by decide)] at H; exact H
  clear H
  have H := H1
  clear H1
  obtain rfl := Option.some.inj H
  go_enter Tryd.func9, Tryd.ntmps9
  go_wp2_with (first | ((with_reducible refine gate_dst (N := 4) rfl ?_); (try (refine gate_guard (by rfl) ?_; dsimp only)); refine box_event ?hg (N := 4) ?hd (cs := #[.int .i64 a0_0, .int .i64 a0_1, .int .i64 a0_2, .int .u64 a0_3, .int .u64 a0_4, .int .u64 a0_5]) (t := 37) ?hr ?_; (case hd => rfl); (case hg => rfl); (case hr => first | (go_simp; done) | (go_simp; rfl)); intro gb421 hg w34 hbox hb; have n0_ := Aside0.mk (below_step (by repeat (first | (with_reducible first | exact HB.out | apply below_alloc | apply pw_below_drewN | apply below_drew1) | exact HB.out)) hb); have n1_ := Aside0.mk (hbox); have n2_ := Aside0.mk ((by rw [hg]; exact (below_size (by repeat (first | (with_reducible first | exact HB.out | apply below_alloc | apply pw_below_drewN | apply below_drew1) | exact HB.out))) : w.heap.size ≤ gb421)); have n3_ := Aside0.mk ((by rw [hg]; exact (below_size (by repeat (first | (with_reducible first | exact HB.out | apply below_alloc | apply pw_below_drewN | apply below_drew1) | exact HB.out))) : w.heap.size ≤ gb421)); clear HB; have HB := n0_; have BK421 := n1_; have GW421 := n2_; have GE421 := n3_; clear n0_ n1_ n2_ n3_; clear hb hbox hg) | ((with_reducible refine gate_callee (f := 27) rfl ?_); refine goesL_ (some 12) rfl rfl Tryd.func27 (by kernel_rfl) rfl #[.slice A3 l3.length c3] rfl (by (try simp only [List.map_toArray, List.map_cons, List.map_nil]); first | done | rfl | (simp only [List.length_drop, List.length_take]; rfl)) ?_; (with_reducible refine (laws_zzFits2.calls k _ _ l3 false _ ?side1 ?side2 A5.out).mono ?_); (case side1 => repeat (first | exact (Kd.C_below HR3.out HB.out) | (with_reducible refine Kd.C_alloc ?_ _) | (with_reducible refine Kd.C_drewN ?_ _) | (with_reducible refine Kd.C_drew ?_))); (case side2 => exact HC3.out); rintro e w' ⟨rfl, ⟨nd, rfl⟩⟩; refine ⟨_, rfl, ?_⟩))
  go_ret
  exact ⟨by first | rfl | (simp [errW_none, errW_some] <;> rfl) | (simp [*, errW_none, errW_some] <;> rfl), by repeat (first | (with_reducible first | exact HB.out | apply below_alloc | apply pw_below_drewN | apply below_drew1 | refine below_set ?_ GE421.out) | exact HB.out)⟩
end Go.Proofs.YtijldedhcjkhiaaDoor.I
