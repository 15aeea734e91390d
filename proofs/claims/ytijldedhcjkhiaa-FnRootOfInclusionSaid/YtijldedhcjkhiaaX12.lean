-- laid by xprint.py (a program of this session over the kit's print); Lean checks it
import Derived.Test.YtijldedhcjkhiaaX0
import Derived.Test.YtijldedhcjkhiaaX1
import Derived.Test.YtijldedhcjkhiaaX7
import Derived.Test.YtijldedhcjkhiaaX8
import Derived.Test.YtijldedhcjkhiaaX11
namespace Go.Proofs.Ytijldedhcjkhiaa.X
open Go.RowKit Go.Proofs.YtijldedhcjkhiaaW.PrintWords Go.Proofs.YtijldedhcjkhiaaW.PrintLast Go.Proofs.YtijldedhcjkhiaaW.PrintMore
attribute [local go_sem] max2_int min2_int max_two min_two max_three min_three max_four min_four   -- for this text's walks alone
set_option linter.unusedVariables false
set_option linter.unusedSimpArgs false

/-! ### spec_RootFromPath: function 13 -/
def spec_RootFromPath.f (k : Nat) (a0_0 : Int) (a0_1 : Int) (a0_2 : Int) (a0_3 : Int) (a0_4 : Int) (a0_5 : Int) (a1 : Int) (a2 : Int) (l3 : List Int) (l4 : List (List Int)) : Option (List Int) := (spec_rootIn.f k a0_0 a0_1 a0_2 a0_3 a0_4 a0_5 a1 0 a2 l3 l4).bind fun t394 => (some t394)
theorem spec_RootFromPath.mono : ∀ a0 a1 a2 a3 a4 a5 a6 a7 a8 a9 k, LeO (spec_RootFromPath.f k a0 a1 a2 a3 a4 a5 a6 a7 a8 a9) (spec_RootFromPath.f (k + 1) a0 a1 a2 a3 a4 a5 a6 a7 a8 a9) := by
  intro a0 a1 a2 a3 a4 a5 a6 a7 a8 a9 k
  unfold spec_RootFromPath.f
  repeat' first
      | (with_reducible exact spec_rootIn.mono _ _ _ _ _ _ _ _ _ _ _ _)
      | (with_reducible exact LeO.refl _)
      | (with_reducible exact LeO.none _)
      | (with_reducible refine LeO.ite ?_ ?_)
      | (with_reducible refine LeO.bind ?_ (fun _ => ?_))
      | exact spec_rootIn.mono _ _ _ _ _ _ _ _ _ _ _ _
      | exact LeO.none _
      | refine LeO.ite ?_ ?_
      | refine LeO.bind ?_ (fun _ => ?_)
set_option maxHeartbeats 8000000 in
set_option maxRecDepth 100000 in
theorem spec_RootFromPath.calls (k : Nat) (a0_0 : Int) (a0_1 : Int) (a0_2 : Int) (a0_3 : Int) (a0_4 : Int) (a0_5 : Int) (a1 : Int) (a2 : Int) (P3_ : Nat → Prop) (A3 : Option Addr) (c3 : Nat) (l3 : List Int) (A4 : Option Addr) (c4 : Nat) (l4 : List (List Int)) (r : List Int) (w : World) (hs3 : Kd.V (Kd.int .u8) 5 w w.heap.size (fun k_ => P3_ k_) (.slice A3 l3.length c3) l3) (hr4 : Kd.C (Kd.slice 5 (Kd.int .u8)) w A4 l4.length l4) (hc4 : l4.length ≤ c4) (h : spec_RootFromPath.f k a0_0 a0_1 a0_2 a0_3 a0_4 a0_5 a1 a2 l3 l4 = some r) :
    Calls Try.prog 13 #[.agg #[.int .i64 a0_0, .int .i64 a0_1, .int .i64 a0_2, .int .u64 a0_3, .int .u64 a0_4, .int .u64 a0_5], .int .u64 a1, .int .u64 a2, .slice A3 l3.length c3, .slice A4 l4.length c4] w fun e w' => ∃ v0_ : Value, e = .returned (v0_) ∧ Kd.V (Kd.int .u8) 5 w' w.heap.size (fun k_ => (P3_ k_ ∨ w.heap.size ≤ k_)) v0_ r ∧ Below w.heap.size w w' := by
  have hu24 := Try.underlying24
  have hu49 := Try.underlying49
  have HO3 := Aside0.mk (show Kd.V (Kd.int .u8) 5 w w.heap.size (fun k_ => (P3_ k_ ∨ w.heap.size ≤ k_)) (.slice A3 l3.length c3) l3 from Kd.V_mono hs3 (fun k_ hk => .inl hk))
  have HR4 := Aside0.mk hr4
  have HC4 := Aside0.mk hc4
  clear hr4 hc4
  have HB := Aside0.mk (Below.refl w.heap.size w)
  have H : ((spec_rootIn.f k a0_0 a0_1 a0_2 a0_3 a0_4 a0_5 a1 0 a2 l3 l4).bind fun t394 => (some t394)) = some r := h
  clear h
  replace H := Option.bind_eq_some_iff.mp H
  obtain ⟨t394, A60, H⟩ := H
  replace H : (some t394) = some r := H
  have A6 := Aside0.mk A60
  clear A60
  obtain rfl := Option.some.inj H
  go_enter Try.func13, Try.ntmps13
  go_wp2_with (first | ((with_reducible refine gate_dst (N := 5) rfl ?_); refine box_event ?hg (N := 5) ?hd (cs := #[.int .i64 a0_0, .int .i64 a0_1, .int .i64 a0_2, .int .u64 a0_3, .int .u64 a0_4, .int .u64 a0_5]) (t := 24) ?hr ?_; (case hd => rfl); (case hg => rfl); (case hr => first | (go_simp; done) | (go_simp; rfl)); intro gb393 hg w7 hbox hb; have n0_ := Aside0.mk (Kd.V_below (Kd.V_elderB (by (with_reducible repeat (first | apply Kd.V_alloc | apply Kd.V_drewN | apply Kd.V_drew)); exact HO3.out) gb393 (Nat.le_of_eq hg.symm)) hb); have n1_ := Aside0.mk (below_step (by repeat (first | (with_reducible first | exact HB.out | apply below_alloc | apply pw_below_drewN | apply below_drew1) | exact HB.out)) hb); have n2_ := Aside0.mk (hbox); have n3_ := Aside0.mk ((by rw [hg]; exact (below_size (by repeat (first | (with_reducible first | exact HB.out | apply below_alloc | apply pw_below_drewN | apply below_drew1) | exact HB.out))) : w.heap.size ≤ gb393)); have n4_ := Aside0.mk ((by rw [hg]; exact (below_size (by repeat (first | (with_reducible first | exact HB.out | apply below_alloc | apply pw_below_drewN | apply below_drew1) | exact HB.out))) : w.heap.size ≤ gb393)); clear HO3; clear HB; have HO3 := n0_; have HB := n1_; have BK393 := n2_; have GW393 := n3_; have GE393 := n4_; clear n0_ n1_ n2_ n3_ n4_; clear hb hbox hg; have hcz8_0 : w7.cell? ⟨gb393, 0, none⟩ = some (.int .i64 a0_0) := (blk_cell BK393.out 0).trans rfl; have hcz8_1 : w7.cell? ⟨gb393, 1, none⟩ = some (.int .i64 a0_1) := (blk_cell BK393.out 1).trans rfl; have hcz8_2 : w7.cell? ⟨gb393, 2, none⟩ = some (.int .i64 a0_2) := (blk_cell BK393.out 2).trans rfl; have hcz8_3 : w7.cell? ⟨gb393, 3, none⟩ = some (.int .u64 a0_3) := (blk_cell BK393.out 3).trans rfl; have hcz8_4 : w7.cell? ⟨gb393, 4, none⟩ = some (.int .u64 a0_4) := (blk_cell BK393.out 4).trans rfl; have hcz8_5 : w7.cell? ⟨gb393, 5, none⟩ = some (.int .u64 a0_5) := (blk_cell BK393.out 5).trans rfl; have hfz8_0 := blk_frozen BK393.out 0; have hfz8_1 := blk_frozen BK393.out 1; have hfz8_2 := blk_frozen BK393.out 2; have hfz8_3 := blk_frozen BK393.out 3; have hfz8_4 := blk_frozen BK393.out 4; have hfz8_5 := blk_frozen BK393.out 5) | ((with_reducible refine gate_callee (f := 20) rfl ?_); refine goesL_ (some 17) rfl rfl Try.func20 (by kernel_rfl) rfl #[.agg #[.int .i64 a0_0, .int .i64 a0_1, .int .i64 a0_2, .int .u64 a0_3, .int .u64 a0_4, .int .u64 a0_5], .int .u64 a1, .agg #[.int .u64 0, .int .u64 a2], .slice A3 l3.length c3, .slice A4 l4.length c4] rfl (by (try simp only [List.map_toArray, List.map_cons, List.map_nil]); first | done | rfl | (simp only [List.length_drop, List.length_take]; rfl)) ?_; (with_reducible refine (spec_rootIn.calls k a0_0 a0_1 a0_2 a0_3 a0_4 a0_5 a1 0 a2 (fun k_ => ((P3_ k_ ∨ w.heap.size ≤ k_) ∧ k_ ≠ gb393)) _ _ l3 _ _ l4 t394 _ ?side1 ?side2 ?side3 A6.out).mono ?_); (case side1 => first | exact HO3.out | exact Kd.V_mono HO3.out (fun k_ hk_ => ⟨⟨hk_.1, hk_.2.1⟩, hk_.2.2⟩)); (case side2 => repeat (first | exact (Kd.C_below HR4.out HB.out) | (with_reducible refine Kd.C_alloc ?_ _) | (with_reducible refine Kd.C_drewN ?_ _) | (with_reducible refine Kd.C_drew ?_))); (case side3 => exact HC4.out); rintro e w9 ⟨v395, rfl, ho0, hb⟩; refine ⟨_, rfl, ?_⟩; have n0_ := Aside0.mk (Kd.V_below (by (with_reducible repeat (first | apply Kd.V_alloc | apply Kd.V_drewN | apply Kd.V_drew)); exact HO3.out) hb); have n1_ := Aside0.mk (Kd.V_lower (Kd.V_mono (ok' := fun k_ => (P3_ k_ ∨ w.heap.size ≤ k_) ∧ k_ ≠ gb393) ho0 (fun k_ hk_ => ⟨Or.elim hk_ (fun hs_ => hs_.1) (fun hn_ => (.inr (Nat.le_trans (below_size (by repeat (first | (with_reducible first | exact HB.out | apply below_alloc | apply pw_below_drewN | apply below_drew1 | refine below_set ?_ GE393.out) | exact HB.out))) hn_))), Or.elim hk_ (fun hs_ => hs_.2) (fun hn_ => (Kd.freshB (g := gb393) (o := .cells #[.int .i64 a0_0, .int .i64 a0_1, .int .i64 a0_2, .int .u64 a0_3, .int .u64 a0_4, .int .u64 a0_5] 24 (0, 0)) (by (with_reducible repeat (first | refine blk_drewN ?_ _ | refine blk_drew ?_ | refine blk_alloc ?_ _)); exact BK393.out) k_ hn_))⟩)) (below_size (by repeat (first | (with_reducible first | exact HB.out | apply below_alloc | apply pw_below_drewN | apply below_drew1 | refine below_set ?_ GE393.out) | exact HB.out)))); have n2_ := Aside0.mk (blk_below (g := gb393) (o := .cells #[.int .i64 a0_0, .int .i64 a0_1, .int .i64 a0_2, .int .u64 a0_3, .int .u64 a0_4, .int .u64 a0_5] 24 (0, 0)) (by (with_reducible repeat (first | refine blk_drewN ?_ _ | refine blk_drew ?_ | refine blk_alloc ?_ _)); exact BK393.out) hb); have n3_ := Aside0.mk (below_step (by repeat (first | (with_reducible first | exact HB.out | apply below_alloc | apply pw_below_drewN | apply below_drew1 | refine below_set ?_ GE393.out) | exact HB.out)) hb); clear HO3; clear BK393; clear HB; have HO3 := n0_; have HO396 := n1_; have BK393 := n2_; have HB := n3_; clear n0_ n1_ n2_ n3_; (try clear hb); (try clear hb2); (try clear hk); (try clear hi); (try clear ho0)))
  go_ret
  exact ⟨_, by first | rfl | (simp [errW_none, errW_some] <;> rfl) | (simp [*, errW_none, errW_some] <;> rfl), by (with_reducible repeat (first | apply Kd.V_alloc | apply Kd.V_drewN | apply Kd.V_drew)); exact Kd.V_mono HO396.out (fun _ hk => hk.1), by repeat (first | (with_reducible first | exact HB.out | apply below_alloc | apply pw_below_drewN | apply below_drew1 | refine below_set ?_ GE393.out) | exact HB.out)⟩

/-! ### laws_FnRootOfInclusion: function 4 -/
mutual
def laws_FnRootOfInclusion.j0 : Nat → Int → Int → List Int → List (List Int) → Bool → Int → Int → Int → Int → Int → Int → Option (Bool)
  | 0, _, _, _, _, _, _, _, _, _, _, _ => none
  | k + 1, x1, x2, x3, x4, x20, x398000, x398001, x398002, x398003, x398004, x398005 => if x20 = true then (some true) else ((laws_logSmall.f k x4).bind fun t399 => (if t399 = true then (laws_FnRootOfInclusion.j1 k x1 x2 x3 x4 (decide ((x3.length : Int) > 5000)) x398000 x398001 x398002 x398003 x398004 x398005) else (laws_FnRootOfInclusion.j1 k x1 x2 x3 x4 true x398000 x398001 x398002 x398003 x398004 x398005)))
def laws_FnRootOfInclusion.j1 : Nat → Int → Int → List Int → List (List Int) → Bool → Int → Int → Int → Int → Int → Int → Option (Bool)
  | 0, _, _, _, _, _, _, _, _, _, _, _ => none
  | k + 1, x1, x2, x3, x4, x28, x398000, x398001, x398002, x398003, x398004, x398005 => if x28 = true then (some true) else ((impl_RootOfInclusion.f k x398000 x398001 x398002 x398003 x398004 x398005 x1 x2 x3 x4).bind fun bt400 => (if x1 ≥ x2 then (laws_FnRootOfInclusion.j2 k x1 x2 x3 x4 bt400.1 bt400.2 true x398000 x398001 x398002 x398003 x398004 x398005) else (if (x3.length : Int) = x398001 then ((spec_PathParts.f k x1 x2).bind fun t404 => (laws_FnRootOfInclusion.j2 k x1 x2 x3 x4 bt400.1 bt400.2 ((x4.length : Int) != (t404.length : Int)) x398000 x398001 x398002 x398003 x398004 x398005)) else (laws_FnRootOfInclusion.j2 k x1 x2 x3 x4 bt400.1 bt400.2 true x398000 x398001 x398002 x398003 x398004 x398005))))
def laws_FnRootOfInclusion.j2 : Nat → Int → Int → List Int → List (List Int) → List Int → Bool → Bool → Int → Int → Int → Int → Int → Int → Option (Bool)
  | 0, _, _, _, _, _, _, _, _, _, _, _, _, _ => none
  | k + 1, x1, x2, x3, x4, x11, x12, x56, x398000, x398001, x398002, x398003, x398004, x398005 => if x56 = true then (some (!x12)) else (if x12 = true then ((spec_RootFromPath.f k x398000 x398001 x398002 x398003 x398004 x398005 x1 x2 x3 x4).bind fun t407 => ((spec_SameText.f x11 t407).bind fun t410 => (some t410))) else (some false))
end
def laws_FnRootOfInclusion.f (k : Nat) (a0_0 : Int) (a0_1 : Int) (a0_2 : Int) (a0_3 : Int) (a0_4 : Int) (a0_5 : Int) (a1 : Int) (a2 : Int) (l3 : List Int) (l4 : List (List Int)) : Option (Bool) := if (l3.length : Int) > 2147483647 then (laws_FnRootOfInclusion.j0 k a1 a2 l3 l4 true a0_0 a0_1 a0_2 a0_3 a0_4 a0_5) else ((laws_zzFits2.f k l4).bind fun t398 => (laws_FnRootOfInclusion.j0 k a1 a2 l3 l4 (!t398) a0_0 a0_1 a0_2 a0_3 a0_4 a0_5))
theorem laws_FnRootOfInclusion.mono_l : ∀ k, (∀ y0 y1 y2 y3 y4 y5 y6 y7 y8 y9 y10, LeO (laws_FnRootOfInclusion.j0 k y0 y1 y2 y3 y4 y5 y6 y7 y8 y9 y10) (laws_FnRootOfInclusion.j0 (k + 1) y0 y1 y2 y3 y4 y5 y6 y7 y8 y9 y10)) ∧ (∀ y0 y1 y2 y3 y4 y5 y6 y7 y8 y9 y10, LeO (laws_FnRootOfInclusion.j1 k y0 y1 y2 y3 y4 y5 y6 y7 y8 y9 y10) (laws_FnRootOfInclusion.j1 (k + 1) y0 y1 y2 y3 y4 y5 y6 y7 y8 y9 y10)) ∧ (∀ y0 y1 y2 y3 y4 y5 y6 y7 y8 y9 y10 y11 y12, LeO (laws_FnRootOfInclusion.j2 k y0 y1 y2 y3 y4 y5 y6 y7 y8 y9 y10 y11 y12) (laws_FnRootOfInclusion.j2 (k + 1) y0 y1 y2 y3 y4 y5 y6 y7 y8 y9 y10 y11 y12))
  | 0 => ⟨fun _ _ _ _ _ _ _ _ _ _ _ r h => by simp [laws_FnRootOfInclusion.j0] at h, fun _ _ _ _ _ _ _ _ _ _ _ r h => by simp [laws_FnRootOfInclusion.j1] at h, fun _ _ _ _ _ _ _ _ _ _ _ _ _ r h => by simp [laws_FnRootOfInclusion.j2] at h⟩
  | k + 1 => by
    obtain ⟨ih0, ih1, ih2⟩ := laws_FnRootOfInclusion.mono_l k
    refine ⟨?_, ?_, ?_⟩
    · intro y0 y1 y2 y3 y4 y5 y6 y7 y8 y9 y10
      unfold laws_FnRootOfInclusion.j0
      repeat' first
      | (with_reducible exact ih0 _ _ _ _ _ _ _ _ _ _ _)
      | (with_reducible exact ih1 _ _ _ _ _ _ _ _ _ _ _)
      | (with_reducible exact ih2 _ _ _ _ _ _ _ _ _ _ _ _ _)
      | (with_reducible exact impl_RootOfInclusion.mono _ _ _ _ _ _ _ _ _ _ _)
      | (with_reducible exact laws_logSmall.mono _ _)
      | (with_reducible exact laws_zzFits2.mono _ _)
      | (with_reducible exact spec_PathParts.mono _ _ _)
      | (with_reducible exact spec_RootFromPath.mono _ _ _ _ _ _ _ _ _ _ _)
      | (with_reducible exact LeO.refl _)
      | (with_reducible exact LeO.none _)
      | (with_reducible refine LeO.ite ?_ ?_)
      | (with_reducible refine LeO.bind ?_ (fun _ => ?_))
      | exact ih0 _ _ _ _ _ _ _ _ _ _ _
      | exact ih1 _ _ _ _ _ _ _ _ _ _ _
      | exact ih2 _ _ _ _ _ _ _ _ _ _ _ _ _
      | exact impl_RootOfInclusion.mono _ _ _ _ _ _ _ _ _ _ _
      | exact laws_logSmall.mono _ _
      | exact laws_zzFits2.mono _ _
      | exact spec_PathParts.mono _ _ _
      | exact spec_RootFromPath.mono _ _ _ _ _ _ _ _ _ _ _
      | exact LeO.none _
      | refine LeO.ite ?_ ?_
      | refine LeO.bind ?_ (fun _ => ?_)
    · intro y0 y1 y2 y3 y4 y5 y6 y7 y8 y9 y10
      unfold laws_FnRootOfInclusion.j1
      repeat' first
      | (with_reducible exact ih0 _ _ _ _ _ _ _ _ _ _ _)
      | (with_reducible exact ih1 _ _ _ _ _ _ _ _ _ _ _)
      | (with_reducible exact ih2 _ _ _ _ _ _ _ _ _ _ _ _ _)
      | (with_reducible exact impl_RootOfInclusion.mono _ _ _ _ _ _ _ _ _ _ _)
      | (with_reducible exact laws_logSmall.mono _ _)
      | (with_reducible exact laws_zzFits2.mono _ _)
      | (with_reducible exact spec_PathParts.mono _ _ _)
      | (with_reducible exact spec_RootFromPath.mono _ _ _ _ _ _ _ _ _ _ _)
      | (with_reducible exact LeO.refl _)
      | (with_reducible exact LeO.none _)
      | (with_reducible refine LeO.ite ?_ ?_)
      | (with_reducible refine LeO.bind ?_ (fun _ => ?_))
      | exact ih0 _ _ _ _ _ _ _ _ _ _ _
      | exact ih1 _ _ _ _ _ _ _ _ _ _ _
      | exact ih2 _ _ _ _ _ _ _ _ _ _ _ _ _
      | exact impl_RootOfInclusion.mono _ _ _ _ _ _ _ _ _ _ _
      | exact laws_logSmall.mono _ _
      | exact laws_zzFits2.mono _ _
      | exact spec_PathParts.mono _ _ _
      | exact spec_RootFromPath.mono _ _ _ _ _ _ _ _ _ _ _
      | exact LeO.none _
      | refine LeO.ite ?_ ?_
      | refine LeO.bind ?_ (fun _ => ?_)
    · intro y0 y1 y2 y3 y4 y5 y6 y7 y8 y9 y10 y11 y12
      unfold laws_FnRootOfInclusion.j2
      repeat' first
      | (with_reducible exact ih0 _ _ _ _ _ _ _ _ _ _ _)
      | (with_reducible exact ih1 _ _ _ _ _ _ _ _ _ _ _)
      | (with_reducible exact ih2 _ _ _ _ _ _ _ _ _ _ _ _ _)
      | (with_reducible exact impl_RootOfInclusion.mono _ _ _ _ _ _ _ _ _ _ _)
      | (with_reducible exact laws_logSmall.mono _ _)
      | (with_reducible exact laws_zzFits2.mono _ _)
      | (with_reducible exact spec_PathParts.mono _ _ _)
      | (with_reducible exact spec_RootFromPath.mono _ _ _ _ _ _ _ _ _ _ _)
      | (with_reducible exact LeO.refl _)
      | (with_reducible exact LeO.none _)
      | (with_reducible refine LeO.ite ?_ ?_)
      | (with_reducible refine LeO.bind ?_ (fun _ => ?_))
      | exact ih0 _ _ _ _ _ _ _ _ _ _ _
      | exact ih1 _ _ _ _ _ _ _ _ _ _ _
      | exact ih2 _ _ _ _ _ _ _ _ _ _ _ _ _
      | exact impl_RootOfInclusion.mono _ _ _ _ _ _ _ _ _ _ _
      | exact laws_logSmall.mono _ _
      | exact laws_zzFits2.mono _ _
      | exact spec_PathParts.mono _ _ _
      | exact spec_RootFromPath.mono _ _ _ _ _ _ _ _ _ _ _
      | exact LeO.none _
      | refine LeO.ite ?_ ?_
      | refine LeO.bind ?_ (fun _ => ?_)
theorem laws_FnRootOfInclusion.mono : ∀ a0 a1 a2 a3 a4 a5 a6 a7 a8 a9 k, LeO (laws_FnRootOfInclusion.f k a0 a1 a2 a3 a4 a5 a6 a7 a8 a9) (laws_FnRootOfInclusion.f (k + 1) a0 a1 a2 a3 a4 a5 a6 a7 a8 a9) := by
  intro a0 a1 a2 a3 a4 a5 a6 a7 a8 a9 k
  obtain ⟨ih0, ih1, ih2⟩ := laws_FnRootOfInclusion.mono_l k
  unfold laws_FnRootOfInclusion.f
  repeat' first
      | (with_reducible exact ih0 _ _ _ _ _ _ _ _ _ _ _)
      | (with_reducible exact ih1 _ _ _ _ _ _ _ _ _ _ _)
      | (with_reducible exact ih2 _ _ _ _ _ _ _ _ _ _ _ _ _)
      | (with_reducible exact impl_RootOfInclusion.mono _ _ _ _ _ _ _ _ _ _ _)
      | (with_reducible exact laws_logSmall.mono _ _)
      | (with_reducible exact laws_zzFits2.mono _ _)
      | (with_reducible exact spec_PathParts.mono _ _ _)
      | (with_reducible exact spec_RootFromPath.mono _ _ _ _ _ _ _ _ _ _ _)
      | (with_reducible exact LeO.refl _)
      | (with_reducible exact LeO.none _)
      | (with_reducible refine LeO.ite ?_ ?_)
      | (with_reducible refine LeO.bind ?_ (fun _ => ?_))
      | exact ih0 _ _ _ _ _ _ _ _ _ _ _
      | exact ih1 _ _ _ _ _ _ _ _ _ _ _
      | exact ih2 _ _ _ _ _ _ _ _ _ _ _ _ _
      | exact impl_RootOfInclusion.mono _ _ _ _ _ _ _ _ _ _ _
      | exact laws_logSmall.mono _ _
      | exact laws_zzFits2.mono _ _
      | exact spec_PathParts.mono _ _ _
      | exact spec_RootFromPath.mono _ _ _ _ _ _ _ _ _ _ _
      | exact LeO.none _
      | refine LeO.ite ?_ ?_
      | refine LeO.bind ?_ (fun _ => ?_)
set_option maxHeartbeats 8000000 in
set_option maxRecDepth 100000 in
theorem laws_FnRootOfInclusion.calls (k : Nat) (a0_0 : Int) (a0_1 : Int) (a0_2 : Int) (a0_3 : Int) (a0_4 : Int) (a0_5 : Int) (a1 : Int) (a2 : Int) (A3 : Option Addr) (c3 : Nat) (l3 : List Int) (A4 : Option Addr) (c4 : Nat) (l4 : List (List Int)) (r : Bool) (w : World) (hr3 : Kd.C (Kd.int .u8) w A3 l3.length l3) (hc3 : l3.length ≤ c3) (hr4 : Kd.C (Kd.slice 5 (Kd.int .u8)) w A4 l4.length l4) (hc4 : l4.length ≤ c4) (h : laws_FnRootOfInclusion.f k a0_0 a0_1 a0_2 a0_3 a0_4 a0_5 a1 a2 l3 l4 = some r) :
    Calls Try.prog 4 #[.agg #[.int .i64 a0_0, .int .i64 a0_1, .int .i64 a0_2, .int .u64 a0_3, .int .u64 a0_4, .int .u64 a0_5], .int .u64 a1, .int .u64 a2, .slice A3 l3.length c3, .slice A4 l4.length c4] w fun e w' => e = .returned (.bool r) ∧ Below w.heap.size w w' := by
  have hu24 := Try.underlying24
  have HR3 := Aside0.mk hr3
  have HC3 := Aside0.mk hc3
  clear hr3 hc3
  have HR4 := Aside0.mk hr4
  have HC4 := Aside0.mk hc4
  clear hr4 hc4
  have HB := Aside0.mk (Below.refl w.heap.size w)
  have H : (if (l3.length : Int) > 2147483647 then (laws_FnRootOfInclusion.j0 k a1 a2 l3 l4 true a0_0 a0_1 a0_2 a0_3 a0_4 a0_5) else ((laws_zzFits2.f k l4).bind fun t398 => (laws_FnRootOfInclusion.j0 k a1 a2 l3 l4 (!t398) a0_0 a0_1 a0_2 a0_3 a0_4 a0_5))) = some r := h
  clear h
  have HC6 := Aside0.mk H
  clear H
  go_enter Try.func4, Try.ntmps4
  go_upto_region 1 with (first | ((with_reducible refine gate_dst (N := 5) rfl ?_); (try (refine gate_guard (by rfl) ?_; dsimp only)); refine box_event ?hg (N := 5) ?hd (cs := #[.int .i64 a0_0, .int .i64 a0_1, .int .i64 a0_2, .int .u64 a0_3, .int .u64 a0_4, .int .u64 a0_5]) (t := 24) ?hr ?_; (case hd => rfl); (case hg => rfl); (case hr => first | (go_simp; done) | (go_simp; rfl)); intro gb397 hg w7 hbox hb; have n0_ := Aside0.mk (below_step (by repeat (first | (with_reducible first | exact HB.out | apply below_alloc | apply pw_below_drewN | apply below_drew1) | exact HB.out)) hb); have n1_ := Aside0.mk (hbox); have n2_ := Aside0.mk ((by rw [hg]; exact (below_size (by repeat (first | (with_reducible first | exact HB.out | apply below_alloc | apply pw_below_drewN | apply below_drew1) | exact HB.out))) : w.heap.size ≤ gb397)); have n3_ := Aside0.mk ((by rw [hg]; exact (below_size (by repeat (first | (with_reducible first | exact HB.out | apply below_alloc | apply pw_below_drewN | apply below_drew1) | exact HB.out))) : w.heap.size ≤ gb397)); clear HB; have HB := n0_; have BK397 := n1_; have GW397 := n2_; have GE397 := n3_; clear n0_ n1_ n2_ n3_; clear hb hbox hg))
  (try simp only [Act.put, List.setIfInBounds_toArray, List.set_cons_zero, List.set_cons_succ])
  go_cut [20] (fun v20 wc => ∃ (kq : Nat) (x20_5 : Bool), v20 = .bool x20_5 ∧ Aside0 (laws_FnRootOfInclusion.j0 kq a1 a2 l3 l4 x20_5 a0_0 a0_1 a0_2 a0_3 a0_4 a0_5 = some r) ∧ Aside0 (kq ≤ k) ∧ Aside0 (wc.heap[gb397]? = some (.cells #[.int .i64 a0_0, .int .i64 a0_1, .int .i64 a0_2, .int .u64 a0_3, .int .u64 a0_4, .int .u64 a0_5] 24 (0, 0))) ∧ Aside0 (Below w.heap.size w wc))
  case first =>
    have H := HC6.out
    clear HC6
    by_cases c8 : (l3.length : Int) > 2147483647
    · rw [if_pos c8] at H
      have c8b0 : decide (2147483647 < (l3.length : Int)) = true := decide_eq_true c8
      have c8b1 : decide (2147483647 < l3.length) = true := decide_eq_true (by omega)
      clear c8
      (first | rw [c8b0] | (simp only [i64_w, i32_w]; rw [c8b0]) | skip)
      have H' := Aside0.mk H
      clear H
      go_wp2
      go_meet
      case rel => exact ⟨_, (true), (by first | rfl | (simp; done) | (simp [*]; done)), H', ⟨by first | omega | exact Nat.le_refl _⟩, ⟨by (with_reducible repeat (first | refine blk_drewN ?_ _ | refine blk_drew ?_ | refine blk_alloc ?_ _)); exact BK397.out⟩, ⟨by repeat (first | (with_reducible first | exact HB.out | apply below_alloc | apply pw_below_drewN | apply below_drew1 | refine below_set ?_ GE397.out) | exact HB.out)⟩⟩
    · rw [if_neg c8] at H
      have c8b0 : decide (2147483647 < (l3.length : Int)) = false := decide_eq_false c8
      have c8b1 : decide (2147483647 < l3.length) = false := decide_eq_false (by omega)
      clear c8
      (first | rw [c8b0] | (simp only [i64_w, i32_w]; rw [c8b0]) | skip)
      replace H := Option.bind_eq_some_iff.mp H
      obtain ⟨t398, A90, H⟩ := H
      replace H : (laws_FnRootOfInclusion.j0 k a1 a2 l3 l4 (!t398) a0_0 a0_1 a0_2 a0_3 a0_4 a0_5) = some r := H
      have A9 := Aside0.mk A90
      clear A90
      have H' := Aside0.mk H
      clear H
      go_wp2_with (first | (go_at_call 5; (with_reducible refine (laws_zzFits2.calls k _ _ l4 t398 _ ?side1 ?side2 A9.out).mono ?_); (case side1 => repeat (first | exact (Kd.C_below HR4.out HB.out) | (with_reducible refine Kd.C_alloc ?_ _) | (with_reducible refine Kd.C_drewN ?_ _) | (with_reducible refine Kd.C_drew ?_))); (case side2 => exact HC4.out); rintro e w' ⟨rfl, ⟨nd, rfl⟩⟩))
      go_meet
      case rel => exact ⟨_, (!t398), (by first | rfl | (simp; done) | (simp [*]; done)), H', ⟨by first | omega | exact Nat.le_refl _⟩, ⟨by (with_reducible repeat (first | refine blk_drewN ?_ _ | refine blk_drew ?_ | refine blk_alloc ?_ _)); exact BK397.out⟩, ⟨by repeat (first | (with_reducible first | exact HB.out | apply below_alloc | apply pw_below_drewN | apply below_drew1 | refine below_set ?_ GE397.out) | exact HB.out)⟩⟩
  case rest =>
    clear HC6
    try clear p2
    try clear c3
    try clear c4
    try clear c8
    try clear c8b0
    try clear c8b1
    obtain ⟨kq, x20_5, rfl, HA, HJ5, BK397, HB⟩ := hcut
    cases kq with
    | zero => exact absurd HA.out (by simp [laws_FnRootOfInclusion.j0])
    | succ kj5 =>
      have H := HA.out
      clear HA
      simp only [laws_FnRootOfInclusion.j0] at H
      by_cases c10 : x20_5 = true
      · subst c10
        have H1 : (some true) = some r := by rw [if_pos rfl] at H; exact H
        clear H
        have H := H1
        clear H1
        obtain rfl := Option.some.inj H
        go_wp2
        go_ret
        exact ⟨by first | rfl | (simp [errW_none, errW_some] <;> rfl) | (simp [*, errW_none, errW_some] <;> rfl), by repeat (first | (with_reducible first | exact HB.out | apply below_alloc | apply pw_below_drewN | apply below_drew1 | refine below_set ?_ GE397.out) | exact HB.out)⟩
      · replace c10 := Bool.eq_false_iff.mpr c10
        subst c10
        have H1 : ((laws_logSmall.f kj5 l4).bind fun t399 => (if t399 = true then (laws_FnRootOfInclusion.j1 kj5 a1 a2 l3 l4 (decide ((l3.length : Int) > 5000)) a0_0 a0_1 a0_2 a0_3 a0_4 a0_5) else (laws_FnRootOfInclusion.j1 kj5 a1 a2 l3 l4 true a0_0 a0_1 a0_2 a0_3 a0_4 a0_5))) = some r := by rw [if_neg (show ¬ (false = true) by decide)] at H; exact H
        clear H
        have H := H1
        clear H1
        have HC11 := Aside0.mk H
        clear H
        go_upto_region 3 with (fail)
        go_cut [28] (fun v28 wc => ∃ (kq : Nat) (x28_10 : Bool), v28 = .bool x28_10 ∧ Aside0 (laws_FnRootOfInclusion.j1 kq a1 a2 l3 l4 x28_10 a0_0 a0_1 a0_2 a0_3 a0_4 a0_5 = some r) ∧ Aside0 (kq ≤ kj5) ∧ Aside0 (wc.heap[gb397]? = some (.cells #[.int .i64 a0_0, .int .i64 a0_1, .int .i64 a0_2, .int .u64 a0_3, .int .u64 a0_4, .int .u64 a0_5] 24 (0, 0))) ∧ Aside0 (Below w.heap.size w wc))
        case first =>
          have H := HC11.out
          clear HC11
          replace H := Option.bind_eq_some_iff.mp H
          obtain ⟨t399, A120, H⟩ := H
          replace H : (if t399 = true then (laws_FnRootOfInclusion.j1 kj5 a1 a2 l3 l4 (decide ((l3.length : Int) > 5000)) a0_0 a0_1 a0_2 a0_3 a0_4 a0_5) else (laws_FnRootOfInclusion.j1 kj5 a1 a2 l3 l4 true a0_0 a0_1 a0_2 a0_3 a0_4 a0_5)) = some r := H
          have A12 := Aside0.mk A120
          clear A120
          by_cases c13 : t399 = true
          · subst c13
            have H1 : (laws_FnRootOfInclusion.j1 kj5 a1 a2 l3 l4 (decide ((l3.length : Int) > 5000)) a0_0 a0_1 a0_2 a0_3 a0_4 a0_5) = some r := by rw [if_pos rfl] at H; exact H
            clear H
            have H := H1
            clear H1
            have H' := Aside0.mk H
            clear H
            go_wp2_with (first | ((with_reducible refine gate_callee (f := 6) rfl ?_); refine goesL_ (some 22) rfl rfl Try.func6 (by kernel_rfl) rfl #[.slice A4 l4.length c4] rfl (by (try simp only [List.map_toArray, List.map_cons, List.map_nil]); first | done | rfl | (simp only [List.length_drop, List.length_take]; rfl)) ?_; (with_reducible refine (laws_logSmall.calls kj5 _ _ l4 true _ ?side1 ?side2 A12.out).mono ?_); (case side1 => repeat (first | exact (Kd.C_below HR4.out HB.out) | (with_reducible refine Kd.C_alloc ?_ _) | (with_reducible refine Kd.C_drewN ?_ _) | (with_reducible refine Kd.C_drew ?_))); (case side2 => exact HC4.out); rintro e w' ⟨rfl, ⟨nd, rfl⟩⟩; refine ⟨_, rfl, ?_⟩))
            go_meet
            case rel => exact ⟨_, (decide ((l3.length : Int) > 5000)), (by first | rfl | (simp; done) | (simp [*]; done)), H', ⟨by have := HJ5.out; first | omega | exact Nat.le_refl _⟩, ⟨by (with_reducible repeat (first | refine blk_drewN ?_ _ | refine blk_drew ?_ | refine blk_alloc ?_ _)); exact BK397.out⟩, ⟨by repeat (first | (with_reducible first | exact HB.out | apply below_alloc | apply pw_below_drewN | apply below_drew1 | refine below_set ?_ GE397.out) | exact HB.out)⟩⟩
          · replace c13 := Bool.eq_false_iff.mpr c13
            subst c13
            have H1 : (laws_FnRootOfInclusion.j1 kj5 a1 a2 l3 l4 true a0_0 a0_1 a0_2 a0_3 a0_4 a0_5) = some r := by rw [if_neg (show ¬ (false = true) by decide)] at H; exact H
            clear H
            have H := H1
            clear H1
            have H' := Aside0.mk H
            clear H
            go_wp2_with (first | ((with_reducible refine gate_callee (f := 6) rfl ?_); refine goesL_ (some 22) rfl rfl Try.func6 (by kernel_rfl) rfl #[.slice A4 l4.length c4] rfl (by (try simp only [List.map_toArray, List.map_cons, List.map_nil]); first | done | rfl | (simp only [List.length_drop, List.length_take]; rfl)) ?_; (with_reducible refine (laws_logSmall.calls kj5 _ _ l4 false _ ?side1 ?side2 A12.out).mono ?_); (case side1 => repeat (first | exact (Kd.C_below HR4.out HB.out) | (with_reducible refine Kd.C_alloc ?_ _) | (with_reducible refine Kd.C_drewN ?_ _) | (with_reducible refine Kd.C_drew ?_))); (case side2 => exact HC4.out); rintro e w' ⟨rfl, ⟨nd, rfl⟩⟩; refine ⟨_, rfl, ?_⟩))
            go_meet
            case rel => exact ⟨_, (true), (by first | rfl | (simp; done) | (simp [*]; done)), H', ⟨by have := HJ5.out; first | omega | exact Nat.le_refl _⟩, ⟨by (with_reducible repeat (first | refine blk_drewN ?_ _ | refine blk_drew ?_ | refine blk_alloc ?_ _)); exact BK397.out⟩, ⟨by repeat (first | (with_reducible first | exact HB.out | apply below_alloc | apply pw_below_drewN | apply below_drew1 | refine below_set ?_ GE397.out) | exact HB.out)⟩⟩
        case rest =>
          clear HC11
          try clear c1
          try clear p2
          try clear c3
          try clear c4
          try clear c6
          try clear c8
          try clear c8b0
          try clear c8b1
          try clear c10
          try clear c13
          try clear p2
          obtain ⟨kq, x28_10, rfl, HA, HJ10, BK397, HB⟩ := hcut
          cases kq with
          | zero => exact absurd HA.out (by simp [laws_FnRootOfInclusion.j1])
          | succ kj10 =>
            have H := HA.out
            clear HA
            simp only [laws_FnRootOfInclusion.j1] at H
            by_cases c14 : x28_10 = true
            · subst c14
              have H1 : (some true) = some r := by rw [if_pos rfl] at H; exact H
              clear H
              have H := H1
              clear H1
              obtain rfl := Option.some.inj H
              go_wp2
              go_ret
              exact ⟨by first | rfl | (simp [errW_none, errW_some] <;> rfl) | (simp [*, errW_none, errW_some] <;> rfl), by repeat (first | (with_reducible first | exact HB.out | apply below_alloc | apply pw_below_drewN | apply below_drew1 | refine below_set ?_ GE397.out) | exact HB.out)⟩
            · replace c14 := Bool.eq_false_iff.mpr c14
              subst c14
              have H1 : ((impl_RootOfInclusion.f kj10 a0_0 a0_1 a0_2 a0_3 a0_4 a0_5 a1 a2 l3 l4).bind fun bt400 => (if a1 ≥ a2 then (laws_FnRootOfInclusion.j2 kj10 a1 a2 l3 l4 bt400.1 bt400.2 true a0_0 a0_1 a0_2 a0_3 a0_4 a0_5) else (if (l3.length : Int) = a0_1 then ((spec_PathParts.f kj10 a1 a2).bind fun t404 => (laws_FnRootOfInclusion.j2 kj10 a1 a2 l3 l4 bt400.1 bt400.2 ((l4.length : Int) != (t404.length : Int)) a0_0 a0_1 a0_2 a0_3 a0_4 a0_5)) else (laws_FnRootOfInclusion.j2 kj10 a1 a2 l3 l4 bt400.1 bt400.2 true a0_0 a0_1 a0_2 a0_3 a0_4 a0_5)))) = some r := by rw [if_neg (show ¬ (false = true) by decide)] at H; exact H
              clear H
              have H := H1
              clear H1
              replace H := Option.bind_eq_some_iff.mp H
              obtain ⟨⟨t400, t403⟩, A150, H⟩ := H
              replace H : (if a1 ≥ a2 then (laws_FnRootOfInclusion.j2 kj10 a1 a2 l3 l4 t400 t403 true a0_0 a0_1 a0_2 a0_3 a0_4 a0_5) else (if (l3.length : Int) = a0_1 then ((spec_PathParts.f kj10 a1 a2).bind fun t404 => (laws_FnRootOfInclusion.j2 kj10 a1 a2 l3 l4 t400 t403 ((l4.length : Int) != (t404.length : Int)) a0_0 a0_1 a0_2 a0_3 a0_4 a0_5)) else (laws_FnRootOfInclusion.j2 kj10 a1 a2 l3 l4 t400 t403 true a0_0 a0_1 a0_2 a0_3 a0_4 a0_5))) = some r := H
              have A15 := Aside0.mk A150
              clear A150
              have HC16 := Aside0.mk H
              clear H
              have hcz17_0 : wc.cell? ⟨gb397, 0, none⟩ = some (.int .i64 a0_0) := (blk_cell BK397.out 0).trans rfl
              have hcz17_1 : wc.cell? ⟨gb397, 1, none⟩ = some (.int .i64 a0_1) := (blk_cell BK397.out 1).trans rfl
              have hcz17_2 : wc.cell? ⟨gb397, 2, none⟩ = some (.int .i64 a0_2) := (blk_cell BK397.out 2).trans rfl
              have hcz17_3 : wc.cell? ⟨gb397, 3, none⟩ = some (.int .u64 a0_3) := (blk_cell BK397.out 3).trans rfl
              have hcz17_4 : wc.cell? ⟨gb397, 4, none⟩ = some (.int .u64 a0_4) := (blk_cell BK397.out 4).trans rfl
              have hcz17_5 : wc.cell? ⟨gb397, 5, none⟩ = some (.int .u64 a0_5) := (blk_cell BK397.out 5).trans rfl
              have hfz17_0 := blk_frozen BK397.out 0
              have hfz17_1 := blk_frozen BK397.out 1
              have hfz17_2 := blk_frozen BK397.out 2
              have hfz17_3 := blk_frozen BK397.out 3
              have hfz17_4 := blk_frozen BK397.out 4
              have hfz17_5 := blk_frozen BK397.out 5
              go_upto_region 6 with (first | ((with_reducible refine gate_callee (f := 11) rfl ?_); refine goesL_ (some 35) rfl rfl Try.func11 (by kernel_rfl) rfl #[.agg #[.int .i64 a0_0, .int .i64 a0_1, .int .i64 a0_2, .int .u64 a0_3, .int .u64 a0_4, .int .u64 a0_5], .int .u64 a1, .int .u64 a2, .slice A3 l3.length c3, .slice A4 l4.length c4] rfl (by (try simp only [List.map_toArray, List.map_cons, List.map_nil]); first | done | rfl | (simp only [List.length_drop, List.length_take]; rfl)) ?_; (with_reducible refine (impl_RootOfInclusion.calls kj10 a0_0 a0_1 a0_2 a0_3 a0_4 a0_5 a1 a2 _ _ l3 _ _ l4 t400 t403 _ ?side1 ?side2 ?side3 ?side4 A15.out).mono ?_); (case side1 => repeat (first | exact (Kd.C_below HR3.out HB.out) | (with_reducible refine Kd.C_alloc ?_ _) | (with_reducible refine Kd.C_drewN ?_ _) | (with_reducible refine Kd.C_drew ?_))); (case side2 => exact HC3.out); (case side3 => repeat (first | exact (Kd.C_below HR4.out HB.out) | (with_reducible refine Kd.C_alloc ?_ _) | (with_reducible refine Kd.C_drewN ?_ _) | (with_reducible refine Kd.C_drew ?_))); (case side4 => exact HC4.out); rintro e w18 ⟨v401, rfl, ho0, hb⟩; refine ⟨_, rfl, ?_⟩; have n0_ := Aside0.mk (Kd.V_lower (Kd.V_mono (ok' := fun k_ => k_ ≠ gb397) ho0 (fun k_ hk_ => (Kd.freshB (g := gb397) (o := .cells #[.int .i64 a0_0, .int .i64 a0_1, .int .i64 a0_2, .int .u64 a0_3, .int .u64 a0_4, .int .u64 a0_5] 24 (0, 0)) (by (with_reducible repeat (first | refine blk_drewN ?_ _ | refine blk_drew ?_ | refine blk_alloc ?_ _)); exact BK397.out) k_ hk_))) (below_size (by repeat (first | (with_reducible first | exact HB.out | apply below_alloc | apply pw_below_drewN | apply below_drew1 | refine below_set ?_ GE397.out) | exact HB.out)))); have n1_ := Aside0.mk (blk_below (g := gb397) (o := .cells #[.int .i64 a0_0, .int .i64 a0_1, .int .i64 a0_2, .int .u64 a0_3, .int .u64 a0_4, .int .u64 a0_5] 24 (0, 0)) (by (with_reducible repeat (first | refine blk_drewN ?_ _ | refine blk_drew ?_ | refine blk_alloc ?_ _)); exact BK397.out) hb); have n2_ := Aside0.mk (below_step (by repeat (first | (with_reducible first | exact HB.out | apply below_alloc | apply pw_below_drewN | apply below_drew1 | refine below_set ?_ GE397.out) | exact HB.out)) hb); clear BK397; clear HB; have HO402 := n0_; have BK397 := n1_; have HB := n2_; clear n0_ n1_ n2_; (try clear hb); (try clear hb2); (try clear hk); (try clear hi); (try clear ho0)))
              (try simp only [Act.put, List.setIfInBounds_toArray, List.set_cons_zero, List.set_cons_succ])
              go_cut [56] (fun v56 wc => ∃ (kq : Nat) (x56_15 : Bool), v56 = .bool x56_15 ∧ Aside0 (laws_FnRootOfInclusion.j2 kq a1 a2 l3 l4 t400 t403 x56_15 a0_0 a0_1 a0_2 a0_3 a0_4 a0_5 = some r) ∧ Aside0 (kq ≤ kj10) ∧ Aside0 (Kd.V (Kd.int .u8) 5 wc w.heap.size (fun k_ => k_ ≠ gb397) v401 t400) ∧ Aside0 (wc.heap[gb397]? = some (.cells #[.int .i64 a0_0, .int .i64 a0_1, .int .i64 a0_2, .int .u64 a0_3, .int .u64 a0_4, .int .u64 a0_5] 24 (0, 0))) ∧ Aside0 (Below w.heap.size w wc))
              case first =>
                have H := HC16.out
                clear HC16
                by_cases c19 : a1 ≥ a2
                · rw [if_pos c19] at H
                  have c19b0 : decide (a2 ≤ a1) = true := decide_eq_true c19
                  clear c19
                  (first | rw [c19b0] | (simp only [i64_w, i32_w]; rw [c19b0]) | skip)
                  have H' := Aside0.mk H
                  clear H
                  go_wp2
                  go_meet
                  case rel => exact ⟨_, (true), (by first | rfl | (simp; done) | (simp [*]; done)), H', ⟨by have := HJ5.out; have := HJ10.out; first | omega | exact Nat.le_refl _⟩, ⟨by (with_reducible repeat (first | apply Kd.V_alloc | apply Kd.V_drewN | apply Kd.V_drew)); exact HO402.out⟩, ⟨by (with_reducible repeat (first | refine blk_drewN ?_ _ | refine blk_drew ?_ | refine blk_alloc ?_ _)); exact BK397.out⟩, ⟨by repeat (first | (with_reducible first | exact HB.out | apply below_alloc | apply pw_below_drewN | apply below_drew1 | refine below_set ?_ GE397.out) | exact HB.out)⟩⟩
                · rw [if_neg c19] at H
                  have c19b0 : decide (a2 ≤ a1) = false := decide_eq_false c19
                  clear c19
                  (first | rw [c19b0] | (simp only [i64_w, i32_w]; rw [c19b0]) | skip)
                  by_cases c20 : (l3.length : Int) = a0_1
                  · rw [if_pos c20] at H
                    have c20b0 : ((l3.length : Int) == a0_1) = true := beq_iff_eq.mpr c20
                    have c20b1 : ((l3.length : Int) != a0_1) = false := bne_eq_false_iff_eq.mpr c20
                    clear c20
                    replace H := Option.bind_eq_some_iff.mp H
                    obtain ⟨t404, A210, H⟩ := H
                    replace H : (laws_FnRootOfInclusion.j2 kj10 a1 a2 l3 l4 t400 t403 ((l4.length : Int) != (t404.length : Int)) a0_0 a0_1 a0_2 a0_3 a0_4 a0_5) = some r := H
                    have A21 := Aside0.mk A210
                    clear A210
                    have H' := Aside0.mk H
                    clear H
                    have hcz22_0 : w18.cell? ⟨gb397, 0, none⟩ = some (.int .i64 a0_0) := (blk_cell BK397.out 0).trans rfl
                    have hcz22_1 : w18.cell? ⟨gb397, 1, none⟩ = some (.int .i64 a0_1) := (blk_cell BK397.out 1).trans rfl
                    have hcz22_2 : w18.cell? ⟨gb397, 2, none⟩ = some (.int .i64 a0_2) := (blk_cell BK397.out 2).trans rfl
                    have hcz22_3 : w18.cell? ⟨gb397, 3, none⟩ = some (.int .u64 a0_3) := (blk_cell BK397.out 3).trans rfl
                    have hcz22_4 : w18.cell? ⟨gb397, 4, none⟩ = some (.int .u64 a0_4) := (blk_cell BK397.out 4).trans rfl
                    have hcz22_5 : w18.cell? ⟨gb397, 5, none⟩ = some (.int .u64 a0_5) := (blk_cell BK397.out 5).trans rfl
                    have hfz22_0 := blk_frozen BK397.out 0
                    have hfz22_1 := blk_frozen BK397.out 1
                    have hfz22_2 := blk_frozen BK397.out 2
                    have hfz22_3 := blk_frozen BK397.out 3
                    have hfz22_4 := blk_frozen BK397.out 4
                    have hfz22_5 := blk_frozen BK397.out 5
                    go_wp2_with (first | (go_at_call 12; (with_reducible refine (spec_PathParts.calls kj10 a1 a2 t404 _ A21.out).mono ?_); rintro e w23 ⟨v405, rfl, ho0, hb⟩; have n0_ := Aside0.mk (Kd.V_elder' (by (with_reducible repeat (first | apply Kd.V_alloc | apply Kd.V_drewN | apply Kd.V_drew)); exact HO402.out) (Kd.R_base ho0) hb); have n1_ := Aside0.mk (Kd.R_lower ho0 (below_size (by repeat (first | (with_reducible first | exact HB.out | apply below_alloc | apply pw_below_drewN | apply below_drew1 | refine below_set ?_ GE397.out) | exact HB.out)))); have n2_ := Aside0.mk (blk_below (g := gb397) (o := .cells #[.int .i64 a0_0, .int .i64 a0_1, .int .i64 a0_2, .int .u64 a0_3, .int .u64 a0_4, .int .u64 a0_5] 24 (0, 0)) (by (with_reducible repeat (first | refine blk_drewN ?_ _ | refine blk_drew ?_ | refine blk_alloc ?_ _)); exact BK397.out) hb); have n3_ := Aside0.mk (below_step (by repeat (first | (with_reducible first | exact HB.out | apply below_alloc | apply pw_below_drewN | apply below_drew1 | refine below_set ?_ GE397.out) | exact HB.out)) hb); clear HO402; clear BK397; clear HB; have HO402 := n0_; have HO406 := n1_; have BK397 := n2_; have HB := n3_; clear n0_ n1_ n2_ n3_; (try clear hb); (try clear hb2); (try clear hk); (try clear hi); (try clear ho0); obtain ⟨Ao24, co24, eo24⟩ := Kd.R_slice HO406.out; subst eo24))
                    go_meet
                    case rel => exact ⟨_, (((l4.length : Int) != (t404.length : Int))), (by first | rfl | (simp; done) | (simp [*]; done)), H', ⟨by have := HJ5.out; have := HJ10.out; first | omega | exact Nat.le_refl _⟩, ⟨by (with_reducible repeat (first | apply Kd.V_alloc | apply Kd.V_drewN | apply Kd.V_drew)); exact Kd.V_mono HO402.out (fun _ hk => hk.1)⟩, ⟨by (with_reducible repeat (first | refine blk_drewN ?_ _ | refine blk_drew ?_ | refine blk_alloc ?_ _)); exact BK397.out⟩, ⟨by repeat (first | (with_reducible first | exact HB.out | apply below_alloc | apply pw_below_drewN | apply below_drew1 | refine below_set ?_ GE397.out) | exact HB.out)⟩⟩
                  · rw [if_neg c20] at H
                    have c20b0 : ((l3.length : Int) == a0_1) = false := beq_eq_false_iff_ne.mpr c20
                    have c20b1 : ((l3.length : Int) != a0_1) = true := bne_iff_ne.mpr c20
                    have H' := Aside0.mk H
                    clear H
                    have hcz25_0 : w18.cell? ⟨gb397, 0, none⟩ = some (.int .i64 a0_0) := (blk_cell BK397.out 0).trans rfl
                    have hcz25_1 : w18.cell? ⟨gb397, 1, none⟩ = some (.int .i64 a0_1) := (blk_cell BK397.out 1).trans rfl
                    have hcz25_2 : w18.cell? ⟨gb397, 2, none⟩ = some (.int .i64 a0_2) := (blk_cell BK397.out 2).trans rfl
                    have hcz25_3 : w18.cell? ⟨gb397, 3, none⟩ = some (.int .u64 a0_3) := (blk_cell BK397.out 3).trans rfl
                    have hcz25_4 : w18.cell? ⟨gb397, 4, none⟩ = some (.int .u64 a0_4) := (blk_cell BK397.out 4).trans rfl
                    have hcz25_5 : w18.cell? ⟨gb397, 5, none⟩ = some (.int .u64 a0_5) := (blk_cell BK397.out 5).trans rfl
                    have hfz25_0 := blk_frozen BK397.out 0
                    have hfz25_1 := blk_frozen BK397.out 1
                    have hfz25_2 := blk_frozen BK397.out 2
                    have hfz25_3 := blk_frozen BK397.out 3
                    have hfz25_4 := blk_frozen BK397.out 4
                    have hfz25_5 := blk_frozen BK397.out 5
                    go_wp2
                    go_meet
                    case rel => exact ⟨_, (true), (by first | rfl | (simp; done) | (simp [*]; done)), H', ⟨by have := HJ5.out; have := HJ10.out; first | omega | exact Nat.le_refl _⟩, ⟨by (with_reducible repeat (first | apply Kd.V_alloc | apply Kd.V_drewN | apply Kd.V_drew)); exact HO402.out⟩, ⟨by (with_reducible repeat (first | refine blk_drewN ?_ _ | refine blk_drew ?_ | refine blk_alloc ?_ _)); exact BK397.out⟩, ⟨by repeat (first | (with_reducible first | exact HB.out | apply below_alloc | apply pw_below_drewN | apply below_drew1 | refine below_set ?_ GE397.out) | exact HB.out)⟩⟩
              case rest =>
                clear HC16
                try clear c1
                try clear c2
                try clear p2
                try clear c3
                try clear c4
                try clear c6
                try clear c8
                try clear c8b0
                try clear c8b1
                try clear c10
                try clear c11
                try clear c13
                try clear c14
                try clear c19
                try clear c19b0
                try clear c20
                try clear c20b0
                try clear c20b1
                try clear hcz17_0
                try clear hcz17_1
                try clear hcz17_2
                try clear hcz17_3
                try clear hcz17_4
                try clear hcz17_5
                try clear hcz22_0
                try clear hcz22_1
                try clear hcz22_2
                try clear hcz22_3
                try clear hcz22_4
                try clear hcz22_5
                try clear hcz25_0
                try clear hcz25_1
                try clear hcz25_2
                try clear hcz25_3
                try clear hcz25_4
                try clear hcz25_5
                try clear hfz17_0
                try clear hfz17_1
                try clear hfz17_2
                try clear hfz17_3
                try clear hfz17_4
                try clear hfz17_5
                try clear hfz22_0
                try clear hfz22_1
                try clear hfz22_2
                try clear hfz22_3
                try clear hfz22_4
                try clear hfz22_5
                try clear hfz25_0
                try clear hfz25_1
                try clear hfz25_2
                try clear hfz25_3
                try clear hfz25_4
                try clear hfz25_5
                try clear p2
                obtain ⟨kq, x56_15, rfl, HA, HJ15, HO_11, BK397, HB⟩ := hcut
                cases kq with
                | zero => exact absurd HA.out (by simp [laws_FnRootOfInclusion.j2])
                | succ kj15 =>
                  have H := HA.out
                  clear HA
                  simp only [laws_FnRootOfInclusion.j2] at H
                  by_cases c26 : x56_15 = true
                  · subst c26
                    have H1 : (some (!t403)) = some r := by rw [if_pos rfl] at H; exact H
                    clear H
                    have H := H1
                    clear H1
                    obtain rfl := Option.some.inj H
                    go_wp2
                    go_ret
                    exact ⟨by first | rfl | (simp [errW_none, errW_some] <;> rfl) | (simp [*, errW_none, errW_some] <;> rfl), by repeat (first | (with_reducible first | exact HB.out | apply below_alloc | apply pw_below_drewN | apply below_drew1 | refine below_set ?_ GE397.out) | exact HB.out)⟩
                  · replace c26 := Bool.eq_false_iff.mpr c26
                    subst c26
                    have H1 : (if t403 = true then ((spec_RootFromPath.f kj15 a0_0 a0_1 a0_2 a0_3 a0_4 a0_5 a1 a2 l3 l4).bind fun t407 => ((spec_SameText.f t400 t407).bind fun t410 => (some t410))) else (some false)) = some r := by rw [if_neg (show ¬ (false = true) by decide)] at H; exact H
                    clear H
                    have H := H1
                    clear H1
                    by_cases c27 : t403 = true
                    · subst c27
                      have H1 : ((spec_RootFromPath.f kj15 a0_0 a0_1 a0_2 a0_3 a0_4 a0_5 a1 a2 l3 l4).bind fun t407 => ((spec_SameText.f t400 t407).bind fun t410 => (some t410))) = some r := by rw [if_pos rfl] at H; exact H
                      clear H
                      have H := H1
                      clear H1
                      replace H := Option.bind_eq_some_iff.mp H
                      obtain ⟨t407, A280, H⟩ := H
                      replace H : ((spec_SameText.f t400 t407).bind fun t410 => (some t410)) = some r := H
                      have A28 := Aside0.mk A280
                      clear A280
                      replace H := Option.bind_eq_some_iff.mp H
                      obtain ⟨t410, A290, H⟩ := H
                      replace H : (some t410) = some r := H
                      have A29 := Aside0.mk A290
                      clear A290
                      obtain rfl := Option.some.inj H
                      have hcz30_0 : wc.cell? ⟨gb397, 0, none⟩ = some (.int .i64 a0_0) := (blk_cell BK397.out 0).trans rfl
                      have hcz30_1 : wc.cell? ⟨gb397, 1, none⟩ = some (.int .i64 a0_1) := (blk_cell BK397.out 1).trans rfl
                      have hcz30_2 : wc.cell? ⟨gb397, 2, none⟩ = some (.int .i64 a0_2) := (blk_cell BK397.out 2).trans rfl
                      have hcz30_3 : wc.cell? ⟨gb397, 3, none⟩ = some (.int .u64 a0_3) := (blk_cell BK397.out 3).trans rfl
                      have hcz30_4 : wc.cell? ⟨gb397, 4, none⟩ = some (.int .u64 a0_4) := (blk_cell BK397.out 4).trans rfl
                      have hcz30_5 : wc.cell? ⟨gb397, 5, none⟩ = some (.int .u64 a0_5) := (blk_cell BK397.out 5).trans rfl
                      have hfz30_0 := blk_frozen BK397.out 0
                      have hfz30_1 := blk_frozen BK397.out 1
                      have hfz30_2 := blk_frozen BK397.out 2
                      have hfz30_3 := blk_frozen BK397.out 3
                      have hfz30_4 := blk_frozen BK397.out 4
                      have hfz30_5 := blk_frozen BK397.out 5
                      go_wp2_with (first | (go_at_call 13; (with_reducible refine (spec_RootFromPath.calls kj15 a0_0 a0_1 a0_2 a0_3 a0_4 a0_5 a1 a2 (fun k_ => k_ < w.heap.size) _ _ l3 _ _ l4 t407 _ ?side1 ?side2 ?side3 A28.out).mono ?_); (case side1 => exact Kd.V_mk HC3.out (Kd.F_below (Kd.C_F (Kd.heap_int .u8) HR3.out) (by repeat (first | (with_reducible first | exact HB.out | apply below_alloc | apply pw_below_drewN | apply below_drew1 | refine below_set ?_ GE397.out) | exact HB.out)))); (case side2 => repeat (first | exact (Kd.C_below HR4.out HB.out) | (with_reducible refine Kd.C_alloc ?_ _) | (with_reducible refine Kd.C_drewN ?_ _) | (with_reducible refine Kd.C_drew ?_))); (case side3 => exact HC4.out); rintro e w31 ⟨v408, rfl, ho0, hb⟩; have n0_ := Aside0.mk (Kd.V_below (by (with_reducible repeat (first | apply Kd.V_alloc | apply Kd.V_drewN | apply Kd.V_drew)); exact HO_11.out) hb); have n1_ := Aside0.mk (Kd.V_lower (Kd.V_mono (ok' := fun k_ => k_ ≠ gb397) ho0 (fun k_ hk_ => Or.elim hk_ (fun hs_ => fun e_ => Nat.not_le.2 hs_ (by rw [e_]; exact GW397.out)) (fun hn_ => (Kd.freshB (g := gb397) (o := .cells #[.int .i64 a0_0, .int .i64 a0_1, .int .i64 a0_2, .int .u64 a0_3, .int .u64 a0_4, .int .u64 a0_5] 24 (0, 0)) (by (with_reducible repeat (first | refine blk_drewN ?_ _ | refine blk_drew ?_ | refine blk_alloc ?_ _)); exact BK397.out) k_ hn_)))) (below_size (by repeat (first | (with_reducible first | exact HB.out | apply below_alloc | apply pw_below_drewN | apply below_drew1 | refine below_set ?_ GE397.out) | exact HB.out)))); have n2_ := Aside0.mk (blk_below (g := gb397) (o := .cells #[.int .i64 a0_0, .int .i64 a0_1, .int .i64 a0_2, .int .u64 a0_3, .int .u64 a0_4, .int .u64 a0_5] 24 (0, 0)) (by (with_reducible repeat (first | refine blk_drewN ?_ _ | refine blk_drew ?_ | refine blk_alloc ?_ _)); exact BK397.out) hb); have n3_ := Aside0.mk (below_step (by repeat (first | (with_reducible first | exact HB.out | apply below_alloc | apply pw_below_drewN | apply below_drew1 | refine below_set ?_ GE397.out) | exact HB.out)) hb); clear HO_11; clear BK397; clear HB; have HO_11 := n0_; have HO409 := n1_; have BK397 := n2_; have HB := n3_; clear n0_ n1_ n2_ n3_; (try clear hb); (try clear hb2); (try clear hk); (try clear hi); (try clear ho0); obtain ⟨Ao32, co32, eo32⟩ := Kd.V_slice HO_11.out; subst eo32; obtain ⟨Ao33, co33, eo33⟩ := Kd.V_slice HO409.out; subst eo33) | (go_at_call 7; (with_reducible refine (spec_SameText.calls _ _ t400 _ _ t407 t410 _ ?side1 ?side2 ?side3 ?side4 A29.out).mono ?_); (case side1 => repeat (first | exact (Kd.V_reads' HO_11.out).2.2 | (with_reducible refine Kd.C_alloc ?_ _) | (with_reducible refine Kd.C_drewN ?_ _) | (with_reducible refine Kd.C_drew ?_))); (case side2 => exact (Kd.V_reads' HO_11.out).2.1); (case side3 => repeat (first | exact (Kd.V_reads' HO409.out).2.2 | (with_reducible refine Kd.C_alloc ?_ _) | (with_reducible refine Kd.C_drewN ?_ _) | (with_reducible refine Kd.C_drew ?_))); (case side4 => exact (Kd.V_reads' HO409.out).2.1); rintro e w' ⟨rfl, ⟨nd, rfl⟩⟩))
                      go_ret
                      exact ⟨by first | rfl | (simp [errW_none, errW_some] <;> rfl) | (simp [*, errW_none, errW_some] <;> rfl), by repeat (first | (with_reducible first | exact HB.out | apply below_alloc | apply pw_below_drewN | apply below_drew1 | refine below_set ?_ GE397.out) | exact HB.out)⟩
                    · replace c27 := Bool.eq_false_iff.mpr c27
                      subst c27
                      have H1 : (some false) = some r := by rw [if_neg (show ¬ (false = true) by decide)] at H; exact H
                      clear H
                      have H := H1
                      clear H1
                      obtain rfl := Option.some.inj H
                      go_wp2
                      go_ret
                      exact ⟨by first | rfl | (simp [errW_none, errW_some] <;> rfl) | (simp [*, errW_none, errW_some] <;> rfl), by repeat (first | (with_reducible first | exact HB.out | apply below_alloc | apply pw_below_drewN | apply below_drew1 | refine below_set ?_ GE397.out) | exact HB.out)⟩

end Go.Proofs.Ytijldedhcjkhiaa.X
