-- laid by xprint.py (a program of this session over the kit's print); Lean checks it
import Derived.Test.YtijldedhcjkhiaaDoorX0
import Derived.Test.YtijldedhcjkhiaaDoorX2
import Derived.Test.YtijldedhcjkhiaaDoorX3
import Derived.Test.YtijldedhcjkhiaaDoorX4
namespace Go.Proofs.YtijldedhcjkhiaaDoor.X
open Go.RowKit Go.Proofs.YtijldedhcjkhiaaDoorW.PrintWords Go.Proofs.YtijldedhcjkhiaaDoorW.PrintLast Go.Proofs.YtijldedhcjkhiaaDoorW.PrintMore
attribute [local go_sem] max2_int min2_int max_two min_two max_three min_three max_four min_four   -- for this text's walks alone
set_option linter.unusedVariables false
set_option linter.unusedSimpArgs false

/-! ### laws_FnMergePath: function 3 -/
mutual
def laws_FnMergePath.j0 : Nat → Int → Int → Int → Bool → Option (Bool)
  | 0, _, _, _, _ => none
  | k + 1, x0, x1, x2, x27 => if x27 = true then (some true) else ((impl_MergePath.f x0 x1 x2).bind fun bt199 => ((spec_MergedLevels.f k x0 x1 x2).bind fun t201 => (if (t201.length : Int) = 0 then (if bt199.2 ≤ bt199.1 then ((impl_RangeNodes.f k x0 x2 ([] : List (S70))).bind fun t204 => ((impl_RangeNodes.f k x0 x1 ([] : List (S70))).bind fun t207 => ((impl_RangeNodes.f k x1 x2 t207).bind fun t210 => ((spec_SameNodes.f k t204 t210).bind fun t213 => (if t213 = true then ((impl_RangeSize.f x0 x2).bind fun t214 => ((spec_Nodes.f k x0 x2).bind fun t215 => (some (t214 == (t215.length : Int))))) else (some false)))))) else (some false)) else (if bt199.2 ≤ bt199.1 then (laws_FnMergePath.j1 k bt199.1 t201 true) else (laws_FnMergePath.j1 k bt199.1 t201 ((wrap64 (IntKind.u64.wrap (bt199.2 - bt199.1))) != (t201.length : Int)))))))
def laws_FnMergePath.j1 : Nat → Int → List Int → Bool → Option (Bool)
  | 0, _, _, _ => none
  | k + 1, x7, x9, x79 => if x79 = true then (some false) else (laws_FnMergePath.l0 k x7 x9 (x9.length : Int) 0)
def laws_FnMergePath.l0 : Nat → Int → List Int → Int → Int → Option (Bool)
  | 0, _, _, _, _ => none
  | k + 1, x7, x80, x81, x82 => if x82 < x81 then (if 0 ≤ x82 then (if x82 < (x80.length : Int) then (if (rd x80 x82) = (IntKind.u64.wrap ((IntKind.u64.wrap (x7 + 1)) + (IntKind.u64.wrap (x82)))) then (laws_FnMergePath.l0 k x7 x80 x81 (wrap64 (x82 + 1))) else (some false)) else (none)) else (none)) else (some true)
end
def laws_FnMergePath.f (k : Nat) (a0 : Int) (a1 : Int) (a2 : Int) : Option (Bool) := if a0 > a1 then (laws_FnMergePath.j0 k a0 a1 a2 true) else (if a1 > a2 then (laws_FnMergePath.j0 k a0 a1 a2 true) else (if a1 = 0 then (laws_FnMergePath.j0 k a0 a1 a2 (a2 == 18446744073709551615)) else (laws_FnMergePath.j0 k a0 a1 a2 false)))
theorem laws_FnMergePath.mono_l : ∀ k, (∀ y0 y1 y2 y3, LeO (laws_FnMergePath.j0 k y0 y1 y2 y3) (laws_FnMergePath.j0 (k + 1) y0 y1 y2 y3)) ∧ (∀ y0 y1 y2, LeO (laws_FnMergePath.j1 k y0 y1 y2) (laws_FnMergePath.j1 (k + 1) y0 y1 y2)) ∧ (∀ y0 y1 y2 y3, LeO (laws_FnMergePath.l0 k y0 y1 y2 y3) (laws_FnMergePath.l0 (k + 1) y0 y1 y2 y3))
  | 0 => ⟨fun _ _ _ _ r h => by simp [laws_FnMergePath.j0] at h, fun _ _ _ r h => by simp [laws_FnMergePath.j1] at h, fun _ _ _ _ r h => by simp [laws_FnMergePath.l0] at h⟩
  | k + 1 => by
    obtain ⟨ih0, ih1, ih2⟩ := laws_FnMergePath.mono_l k
    refine ⟨?_, ?_, ?_⟩
    · intro y0 y1 y2 y3
      unfold laws_FnMergePath.j0
      repeat' first
      | (with_reducible exact ih0 _ _ _ _)
      | (with_reducible exact ih1 _ _ _)
      | (with_reducible exact ih2 _ _ _ _)
      | (with_reducible exact impl_RangeNodes.mono _ _ _ _)
      | (with_reducible exact spec_MergedLevels.mono _ _ _ _)
      | (with_reducible exact spec_Nodes.mono _ _ _)
      | (with_reducible exact spec_SameNodes.mono _ _ _)
      | (with_reducible exact LeO.refl _)
      | (with_reducible exact LeO.none _)
      | (with_reducible refine LeO.ite ?_ ?_)
      | (with_reducible refine LeO.bind ?_ (fun _ => ?_))
      | exact ih0 _ _ _ _
      | exact ih1 _ _ _
      | exact ih2 _ _ _ _
      | exact impl_RangeNodes.mono _ _ _ _
      | exact spec_MergedLevels.mono _ _ _ _
      | exact spec_Nodes.mono _ _ _
      | exact spec_SameNodes.mono _ _ _
      | exact LeO.none _
      | refine LeO.ite ?_ ?_
      | refine LeO.bind ?_ (fun _ => ?_)
    · intro y0 y1 y2
      unfold laws_FnMergePath.j1
      repeat' first
      | (with_reducible exact ih0 _ _ _ _)
      | (with_reducible exact ih1 _ _ _)
      | (with_reducible exact ih2 _ _ _ _)
      | (with_reducible exact impl_RangeNodes.mono _ _ _ _)
      | (with_reducible exact spec_MergedLevels.mono _ _ _ _)
      | (with_reducible exact spec_Nodes.mono _ _ _)
      | (with_reducible exact spec_SameNodes.mono _ _ _)
      | (with_reducible exact LeO.refl _)
      | (with_reducible exact LeO.none _)
      | (with_reducible refine LeO.ite ?_ ?_)
      | (with_reducible refine LeO.bind ?_ (fun _ => ?_))
      | exact ih0 _ _ _ _
      | exact ih1 _ _ _
      | exact ih2 _ _ _ _
      | exact impl_RangeNodes.mono _ _ _ _
      | exact spec_MergedLevels.mono _ _ _ _
      | exact spec_Nodes.mono _ _ _
      | exact spec_SameNodes.mono _ _ _
      | exact LeO.none _
      | refine LeO.ite ?_ ?_
      | refine LeO.bind ?_ (fun _ => ?_)
    · intro y0 y1 y2 y3
      unfold laws_FnMergePath.l0
      repeat' first
      | (with_reducible exact ih0 _ _ _ _)
      | (with_reducible exact ih1 _ _ _)
      | (with_reducible exact ih2 _ _ _ _)
      | (with_reducible exact impl_RangeNodes.mono _ _ _ _)
      | (with_reducible exact spec_MergedLevels.mono _ _ _ _)
      | (with_reducible exact spec_Nodes.mono _ _ _)
      | (with_reducible exact spec_SameNodes.mono _ _ _)
      | (with_reducible exact LeO.refl _)
      | (with_reducible exact LeO.none _)
      | (with_reducible refine LeO.ite ?_ ?_)
      | (with_reducible refine LeO.bind ?_ (fun _ => ?_))
      | exact ih0 _ _ _ _
      | exact ih1 _ _ _
      | exact ih2 _ _ _ _
      | exact impl_RangeNodes.mono _ _ _ _
      | exact spec_MergedLevels.mono _ _ _ _
      | exact spec_Nodes.mono _ _ _
      | exact spec_SameNodes.mono _ _ _
      | exact LeO.none _
      | refine LeO.ite ?_ ?_
      | refine LeO.bind ?_ (fun _ => ?_)
theorem laws_FnMergePath.mono : ∀ a0 a1 a2 k, LeO (laws_FnMergePath.f k a0 a1 a2) (laws_FnMergePath.f (k + 1) a0 a1 a2) := by
  intro a0 a1 a2 k
  obtain ⟨ih0, ih1, ih2⟩ := laws_FnMergePath.mono_l k
  unfold laws_FnMergePath.f
  repeat' first
      | (with_reducible exact ih0 _ _ _ _)
      | (with_reducible exact ih1 _ _ _)
      | (with_reducible exact ih2 _ _ _ _)
      | (with_reducible exact impl_RangeNodes.mono _ _ _ _)
      | (with_reducible exact spec_MergedLevels.mono _ _ _ _)
      | (with_reducible exact spec_Nodes.mono _ _ _)
      | (with_reducible exact spec_SameNodes.mono _ _ _)
      | (with_reducible exact LeO.refl _)
      | (with_reducible exact LeO.none _)
      | (with_reducible refine LeO.ite ?_ ?_)
      | (with_reducible refine LeO.bind ?_ (fun _ => ?_))
      | exact ih0 _ _ _ _
      | exact ih1 _ _ _
      | exact ih2 _ _ _ _
      | exact impl_RangeNodes.mono _ _ _ _
      | exact spec_MergedLevels.mono _ _ _ _
      | exact spec_Nodes.mono _ _ _
      | exact spec_SameNodes.mono _ _ _
      | exact LeO.none _
      | refine LeO.ite ?_ ?_
      | refine LeO.bind ?_ (fun _ => ?_)
set_option maxHeartbeats 8000000 in
set_option maxRecDepth 100000 in
theorem laws_FnMergePath.calls (k : Nat) (a0 : Int) (a1 : Int) (a2 : Int) (r : Bool) (w : World) (hGT : GlobT w) (h : laws_FnMergePath.f k a0 a1 a2 = some r) :
    Calls Tryd.prog 3 #[.int .u64 a0, .int .u64 a1, .int .u64 a2] w fun e w' => e = .returned (.bool r) ∧ Below w.heap.size w w' := by
  have hu34 := Tryd.underlying34
  have HB := Aside0.mk (Below.refl w.heap.size w)
  have H : (if a0 > a1 then (laws_FnMergePath.j0 k a0 a1 a2 true) else (if a1 > a2 then (laws_FnMergePath.j0 k a0 a1 a2 true) else (if a1 = 0 then (laws_FnMergePath.j0 k a0 a1 a2 (a2 == 18446744073709551615)) else (laws_FnMergePath.j0 k a0 a1 a2 false)))) = some r := h
  clear h
  have HC4 := Aside0.mk H
  clear H
  go_enter Tryd.func3, Tryd.ntmps3
  go_upto_region 1 with (fail)
  go_cut [27] (fun v27 wc => ∃ (kq : Nat) (x27_3 : Bool), v27 = .bool x27_3 ∧ Aside0 (laws_FnMergePath.j0 kq a0 a1 a2 x27_3 = some r) ∧ Aside0 (kq ≤ k) ∧ Aside0 (Below w.heap.size w wc))
  case first =>
    have H := HC4.out
    clear HC4
    by_cases c5 : a0 > a1
    · rw [if_pos c5] at H
      have c5b0 : decide (a1 < a0) = true := decide_eq_true c5
      clear c5
      (first | rw [c5b0] | (simp only [i64_w, i32_w]; rw [c5b0]) | skip)
      have H' := Aside0.mk H
      clear H
      go_wp2
      go_meet
      case rel => exact ⟨_, (true), (by first | rfl | (simp; done) | (simp [*]; done)), H', ⟨by first | omega | exact Nat.le_refl _⟩, ⟨by repeat (first | (with_reducible first | exact HB.out | apply below_alloc | apply pw_below_drewN | apply below_drew1) | exact HB.out)⟩⟩
    · rw [if_neg c5] at H
      have c5b0 : decide (a1 < a0) = false := decide_eq_false c5
      clear c5
      (first | rw [c5b0] | (simp only [i64_w, i32_w]; rw [c5b0]) | skip)
      by_cases c6 : a1 > a2
      · rw [if_pos c6] at H
        have c6b0 : decide (a2 < a1) = true := decide_eq_true c6
        clear c6
        have H' := Aside0.mk H
        clear H
        go_wp2
        go_meet
        case rel => exact ⟨_, (true), (by first | rfl | (simp; done) | (simp [*]; done)), H', ⟨by first | omega | exact Nat.le_refl _⟩, ⟨by repeat (first | (with_reducible first | exact HB.out | apply below_alloc | apply pw_below_drewN | apply below_drew1) | exact HB.out)⟩⟩
      · rw [if_neg c6] at H
        have c6b0 : decide (a2 < a1) = false := decide_eq_false c6
        clear c6
        by_cases c7 : a1 = 0
        · rw [if_pos c7] at H
          have c7b0 : (a1 == 0) = true := beq_iff_eq.mpr c7
          have c7b1 : (a1 != 0) = false := bne_eq_false_iff_eq.mpr c7
          clear c7
          have H' := Aside0.mk H
          clear H
          go_wp2
          go_meet
          case rel => exact ⟨_, ((a2 == 18446744073709551615)), (by first | rfl | (simp; done) | (simp [*]; done)), H', ⟨by first | omega | exact Nat.le_refl _⟩, ⟨by repeat (first | (with_reducible first | exact HB.out | apply below_alloc | apply pw_below_drewN | apply below_drew1) | exact HB.out)⟩⟩
        · rw [if_neg c7] at H
          have c7b0 : (a1 == 0) = false := beq_eq_false_iff_ne.mpr c7
          have c7b1 : (a1 != 0) = true := bne_iff_ne.mpr c7
          have H' := Aside0.mk H
          clear H
          go_wp2
          go_meet
          case rel => exact ⟨_, (false), (by first | rfl | (simp; done) | (simp [*]; done)), H', ⟨by first | omega | exact Nat.le_refl _⟩, ⟨by repeat (first | (with_reducible first | exact HB.out | apply below_alloc | apply pw_below_drewN | apply below_drew1) | exact HB.out)⟩⟩
  case rest =>
    clear HC4
    try clear p2
    try clear c3
    try clear c5
    try clear c5b0
    try clear c6
    try clear c6b0
    try clear c7
    try clear c7b0
    try clear c7b1
    obtain ⟨kq, x27_3, rfl, HA, HJ3, HB⟩ := hcut
    cases kq with
    | zero => exact absurd HA.out (by simp [laws_FnMergePath.j0])
    | succ kj3 =>
      have H := HA.out
      clear HA
      simp only [laws_FnMergePath.j0] at H
      by_cases c8 : x27_3 = true
      · subst c8
        have H1 : (some true) = some r := by rw [if_pos rfl] at H; exact H
        clear H
        have H := H1
        clear H1
        obtain rfl := Option.some.inj H
        go_wp2
        go_ret
        exact ⟨by first | rfl | (simp [errW_none, errW_some] <;> rfl) | (simp [*, errW_none, errW_some] <;> rfl), by repeat (first | (with_reducible first | exact HB.out | apply below_alloc | apply pw_below_drewN | apply below_drew1) | exact HB.out)⟩
      · replace c8 := Bool.eq_false_iff.mpr c8
        subst c8
        have H1 : ((impl_MergePath.f a0 a1 a2).bind fun bt199 => ((spec_MergedLevels.f kj3 a0 a1 a2).bind fun t201 => (if (t201.length : Int) = 0 then (if bt199.2 ≤ bt199.1 then ((impl_RangeNodes.f kj3 a0 a2 ([] : List (S70))).bind fun t204 => ((impl_RangeNodes.f kj3 a0 a1 ([] : List (S70))).bind fun t207 => ((impl_RangeNodes.f kj3 a1 a2 t207).bind fun t210 => ((spec_SameNodes.f kj3 t204 t210).bind fun t213 => (if t213 = true then ((impl_RangeSize.f a0 a2).bind fun t214 => ((spec_Nodes.f kj3 a0 a2).bind fun t215 => (some (t214 == (t215.length : Int))))) else (some false)))))) else (some false)) else (if bt199.2 ≤ bt199.1 then (laws_FnMergePath.j1 kj3 bt199.1 t201 true) else (laws_FnMergePath.j1 kj3 bt199.1 t201 ((wrap64 (IntKind.u64.wrap (bt199.2 - bt199.1))) != (t201.length : Int))))))) = some r := by rw [if_neg (show ¬ (false = true) by decide)] at H; exact H
        clear H
        have H := H1
        clear H1
        replace H := Option.bind_eq_some_iff.mp H
        obtain ⟨⟨t199, t200⟩, A90, H⟩ := H
        replace H : ((spec_MergedLevels.f kj3 a0 a1 a2).bind fun t201 => (if (t201.length : Int) = 0 then (if t200 ≤ t199 then ((impl_RangeNodes.f kj3 a0 a2 ([] : List (S70))).bind fun t204 => ((impl_RangeNodes.f kj3 a0 a1 ([] : List (S70))).bind fun t207 => ((impl_RangeNodes.f kj3 a1 a2 t207).bind fun t210 => ((spec_SameNodes.f kj3 t204 t210).bind fun t213 => (if t213 = true then ((impl_RangeSize.f a0 a2).bind fun t214 => ((spec_Nodes.f kj3 a0 a2).bind fun t215 => (some (t214 == (t215.length : Int))))) else (some false)))))) else (some false)) else (if t200 ≤ t199 then (laws_FnMergePath.j1 kj3 t199 t201 true) else (laws_FnMergePath.j1 kj3 t199 t201 ((wrap64 (IntKind.u64.wrap (t200 - t199))) != (t201.length : Int)))))) = some r := H
        have A9 := Aside0.mk A90
        clear A90
        replace H := Option.bind_eq_some_iff.mp H
        obtain ⟨t201, A100, H⟩ := H
        replace H : (if (t201.length : Int) = 0 then (if t200 ≤ t199 then ((impl_RangeNodes.f kj3 a0 a2 ([] : List (S70))).bind fun t204 => ((impl_RangeNodes.f kj3 a0 a1 ([] : List (S70))).bind fun t207 => ((impl_RangeNodes.f kj3 a1 a2 t207).bind fun t210 => ((spec_SameNodes.f kj3 t204 t210).bind fun t213 => (if t213 = true then ((impl_RangeSize.f a0 a2).bind fun t214 => ((spec_Nodes.f kj3 a0 a2).bind fun t215 => (some (t214 == (t215.length : Int))))) else (some false)))))) else (some false)) else (if t200 ≤ t199 then (laws_FnMergePath.j1 kj3 t199 t201 true) else (laws_FnMergePath.j1 kj3 t199 t201 ((wrap64 (IntKind.u64.wrap (t200 - t199))) != (t201.length : Int))))) = some r := H
        have A10 := Aside0.mk A100
        clear A100
        by_cases c11 : (t201.length : Int) = 0
        · rw [if_pos c11] at H
          have c11b0 : ((t201.length : Int) == 0) = true := beq_iff_eq.mpr c11
          have c11b1 : ((t201.length : Int) != 0) = false := bne_eq_false_iff_eq.mpr c11
          clear c11
          by_cases c12 : t200 ≤ t199
          · rw [if_pos c12] at H
            have c12b0 : decide (t200 ≤ t199) = true := decide_eq_true c12
            clear c12
            replace H := Option.bind_eq_some_iff.mp H
            obtain ⟨t204, A130, H⟩ := H
            replace H : ((impl_RangeNodes.f kj3 a0 a1 ([] : List (S70))).bind fun t207 => ((impl_RangeNodes.f kj3 a1 a2 t207).bind fun t210 => ((spec_SameNodes.f kj3 t204 t210).bind fun t213 => (if t213 = true then ((impl_RangeSize.f a0 a2).bind fun t214 => ((spec_Nodes.f kj3 a0 a2).bind fun t215 => (some (t214 == (t215.length : Int))))) else (some false))))) = some r := H
            have A13 := Aside0.mk A130
            clear A130
            replace H := Option.bind_eq_some_iff.mp H
            obtain ⟨t207, A140, H⟩ := H
            replace H : ((impl_RangeNodes.f kj3 a1 a2 t207).bind fun t210 => ((spec_SameNodes.f kj3 t204 t210).bind fun t213 => (if t213 = true then ((impl_RangeSize.f a0 a2).bind fun t214 => ((spec_Nodes.f kj3 a0 a2).bind fun t215 => (some (t214 == (t215.length : Int))))) else (some false)))) = some r := H
            have A14 := Aside0.mk A140
            clear A140
            replace H := Option.bind_eq_some_iff.mp H
            obtain ⟨t210, A150, H⟩ := H
            replace H : ((spec_SameNodes.f kj3 t204 t210).bind fun t213 => (if t213 = true then ((impl_RangeSize.f a0 a2).bind fun t214 => ((spec_Nodes.f kj3 a0 a2).bind fun t215 => (some (t214 == (t215.length : Int))))) else (some false))) = some r := H
            have A15 := Aside0.mk A150
            clear A150
            replace H := Option.bind_eq_some_iff.mp H
            obtain ⟨t213, A160, H⟩ := H
            replace H : (if t213 = true then ((impl_RangeSize.f a0 a2).bind fun t214 => ((spec_Nodes.f kj3 a0 a2).bind fun t215 => (some (t214 == (t215.length : Int))))) else (some false)) = some r := H
            have A16 := Aside0.mk A160
            clear A160
            by_cases c17 : t213 = true
            · subst c17
              have H1 : ((impl_RangeSize.f a0 a2).bind fun t214 => ((spec_Nodes.f kj3 a0 a2).bind fun t215 => (some (t214 == (t215.length : Int))))) = some r := by rw [if_pos rfl] at H; exact H
              clear H
              have H := H1
              clear H1
              replace H := Option.bind_eq_some_iff.mp H
              obtain ⟨t214, A180, H⟩ := H
              replace H : ((spec_Nodes.f kj3 a0 a2).bind fun t215 => (some (t214 == (t215.length : Int)))) = some r := H
              have A18 := Aside0.mk A180
              clear A180
              replace H := Option.bind_eq_some_iff.mp H
              obtain ⟨t215, A190, H⟩ := H
              replace H : (some (t214 == (t215.length : Int))) = some r := H
              have A19 := Aside0.mk A190
              clear A190
              obtain rfl := Option.some.inj H
              go_wp2_with (first | ((with_reducible refine gate_callee (f := 15) rfl ?_); refine goesL_ (some 32) rfl rfl Tryd.func15 (by kernel_rfl) rfl #[.int .u64 a0, .int .u64 a1, .int .u64 a2] rfl (by (try simp only [List.map_toArray, List.map_cons, List.map_nil]); first | done | rfl | (simp only [List.length_drop, List.length_take]; rfl)) ?_; (with_reducible refine (impl_MergePath.calls a0 a1 a2 t199 t200 _ ?side1 A9.out).mono ?_); (case side1 => exact GlobT.below hGT (by repeat (first | (with_reducible first | exact HB.out | apply below_alloc | apply pw_below_drewN | apply below_drew1) | exact HB.out))); rintro e w' ⟨rfl, ⟨nd, rfl⟩⟩; refine ⟨_, rfl, ?_⟩) | ((with_reducible refine gate_callee (f := 16) rfl ?_); refine goesL_ (some 38) rfl rfl Tryd.func16 (by kernel_rfl) rfl #[.int .u64 a0, .int .u64 a1, .int .u64 a2] rfl (by (try simp only [List.map_toArray, List.map_cons, List.map_nil]); first | done | rfl | (simp only [List.length_drop, List.length_take]; rfl)) ?_; (with_reducible refine (spec_MergedLevels.calls kj3 a0 a1 a2 t201 _ A10.out).mono ?_); rintro e w20 ⟨v202, rfl, ho0, hb⟩; refine ⟨_, rfl, ?_⟩; have n0_ := Aside0.mk (Kd.R_lower ho0 (below_size (by repeat (first | (with_reducible first | exact HB.out | apply below_alloc | apply pw_below_drewN | apply below_drew1) | exact HB.out)))); have n1_ := Aside0.mk (below_step (by repeat (first | (with_reducible first | exact HB.out | apply below_alloc | apply pw_below_drewN | apply below_drew1) | exact HB.out)) hb); clear HB; have HO203 := n0_; have HB := n1_; clear n0_ n1_; (try clear hb); (try clear hb2); (try clear hk); (try clear hi); (try clear ho0); obtain ⟨Ao21, co21, eo21⟩ := Kd.R_slice HO203.out; subst eo21) | (go_at_call 18; refine calls_of_args (args' := #[.int .u64 a0, .int .u64 a2, .slice none ([] : List (S70)).length 0]) (by rfl) ?_; (with_reducible refine (impl_RangeNodes.calls kj3 a0 a2 _ _ ([] : List (S70)) t204 _ ?side3 ?side1 ?side2 A13.out).mono ?_); (case side1 => exact Kd.C_nil _ _); (case side2 => exact Nat.le_refl _); (case side3 => exact GlobT.below hGT (by repeat (first | (with_reducible first | exact HB.out | apply below_alloc | apply pw_below_drewN | apply below_drew1) | exact HB.out))); rintro e w22 ⟨v205, rfl, ho0, hb⟩; have n0_ := Aside0.mk (Kd.R_below (by (with_reducible repeat (first | apply Kd.R_alloc | apply Kd.R_drewN | apply Kd.R_drew)); exact HO203.out) hb); have n1_ := Aside0.mk (Kd.R_lower ho0 (below_size (by repeat (first | (with_reducible first | exact HB.out | apply below_alloc | apply pw_below_drewN | apply below_drew1) | exact HB.out)))); have n2_ := Aside0.mk (below_step (by repeat (first | (with_reducible first | exact HB.out | apply below_alloc | apply pw_below_drewN | apply below_drew1) | exact HB.out)) hb); clear HO203; clear HB; have HO203 := n0_; have HO206 := n1_; have HB := n2_; clear n0_ n1_ n2_; (try clear hb); (try clear hb2); (try clear hk); (try clear hi); (try clear ho0)) | (go_at_call 18; refine calls_of_args (args' := #[.int .u64 a0, .int .u64 a1, .slice none ([] : List (S70)).length 0]) (by rfl) ?_; (with_reducible refine (impl_RangeNodes.calls kj3 a0 a1 _ _ ([] : List (S70)) t207 _ ?side3 ?side1 ?side2 A14.out).mono ?_); (case side1 => exact Kd.C_nil _ _); (case side2 => exact Nat.le_refl _); (case side3 => exact GlobT.below hGT (by repeat (first | (with_reducible first | exact HB.out | apply below_alloc | apply pw_below_drewN | apply below_drew1) | exact HB.out))); rintro e w23 ⟨v208, rfl, ho0, hb⟩; have n0_ := Aside0.mk (Kd.R_below (by (with_reducible repeat (first | apply Kd.R_alloc | apply Kd.R_drewN | apply Kd.R_drew)); exact HO203.out) hb); have n1_ := Aside0.mk (Kd.R_elder' (by (with_reducible repeat (first | apply Kd.R_alloc | apply Kd.R_drewN | apply Kd.R_drew)); exact HO206.out) (Kd.R_base ho0) hb); have n2_ := Aside0.mk (Kd.R_lower (Kd.R_new' ho0 (Kd.R_lt (by (with_reducible repeat (first | apply Kd.R_alloc | apply Kd.R_drewN | apply Kd.R_drew)); exact HO206.out))) (below_size (by repeat (first | (with_reducible first | exact HB.out | apply below_alloc | apply pw_below_drewN | apply below_drew1) | exact HB.out)))); have n3_ := Aside0.mk (below_step (by repeat (first | (with_reducible first | exact HB.out | apply below_alloc | apply pw_below_drewN | apply below_drew1) | exact HB.out)) hb); clear HO203; clear HO206; clear HB; have HO203 := n0_; have HO206 := n1_; have HO209 := n2_; have HB := n3_; clear n0_ n1_ n2_ n3_; (try clear hb); (try clear hb2); (try clear hk); (try clear hi); (try clear ho0); obtain ⟨Ao24, co24, eo24⟩ := Kd.R_slice HO209.out; subst eo24) | (go_at_call 18; (with_reducible refine (impl_RangeNodes.calls kj3 a1 a2 _ _ t207 t210 _ ?side3 ?side1 ?side2 A15.out).mono ?_); (case side1 => repeat (first | exact (Kd.R_reads' HO209.out).2.2 | (with_reducible refine Kd.C_alloc ?_ _) | (with_reducible refine Kd.C_drewN ?_ _) | (with_reducible refine Kd.C_drew ?_))); (case side2 => exact (Kd.R_reads' HO209.out).2.1); (case side3 => exact GlobT.below hGT (by repeat (first | (with_reducible first | exact HB.out | apply below_alloc | apply pw_below_drewN | apply below_drew1) | exact HB.out))); rintro e w25 ⟨v211, rfl, ho0, hb⟩; have n0_ := Aside0.mk (Kd.R_below (by (with_reducible repeat (first | apply Kd.R_alloc | apply Kd.R_drewN | apply Kd.R_drew)); exact HO203.out) hb); have n1_ := Aside0.mk (Kd.R_elder' (by (with_reducible repeat (first | apply Kd.R_alloc | apply Kd.R_drewN | apply Kd.R_drew)); exact HO206.out) (Kd.R_base ho0) hb); have n2_ := Aside0.mk (Kd.R_elder' (by (with_reducible repeat (first | apply Kd.R_alloc | apply Kd.R_drewN | apply Kd.R_drew)); exact HO209.out) (Kd.R_base ho0) hb); have n3_ := Aside0.mk (Kd.R_lower (Kd.R_new' (Kd.R_new' ho0 (Kd.R_lt (by (with_reducible repeat (first | apply Kd.R_alloc | apply Kd.R_drewN | apply Kd.R_drew)); exact HO206.out))) (Kd.R_lt (by (with_reducible repeat (first | apply Kd.R_alloc | apply Kd.R_drewN | apply Kd.R_drew)); exact HO209.out))) (below_size (by repeat (first | (with_reducible first | exact HB.out | apply below_alloc | apply pw_below_drewN | apply below_drew1) | exact HB.out)))); have n4_ := Aside0.mk (below_step (by repeat (first | (with_reducible first | exact HB.out | apply below_alloc | apply pw_below_drewN | apply below_drew1) | exact HB.out)) hb); clear HO203; clear HO206; clear HO209; clear HB; have HO203 := n0_; have HO206 := n1_; have HO209 := n2_; have HO212 := n3_; have HB := n4_; clear n0_ n1_ n2_ n3_ n4_; (try clear hb); (try clear hb2); (try clear hk); (try clear hi); (try clear ho0); obtain ⟨Ao26, co26, eo26⟩ := Kd.R_slice HO206.out; subst eo26; obtain ⟨Ao27, co27, eo27⟩ := Kd.R_slice HO212.out; subst eo27) | (go_at_call 17; (with_reducible refine (spec_SameNodes.calls kj3 _ _ t204 _ _ t210 true _ ?side1 ?side2 ?side3 ?side4 A16.out).mono ?_); (case side1 => repeat (first | exact (Kd.R_reads' HO206.out).2.2 | (with_reducible refine Kd.C_alloc ?_ _) | (with_reducible refine Kd.C_drewN ?_ _) | (with_reducible refine Kd.C_drew ?_))); (case side2 => exact (Kd.R_reads' HO206.out).2.1); (case side3 => repeat (first | exact (Kd.R_reads' HO212.out).2.2 | (with_reducible refine Kd.C_alloc ?_ _) | (with_reducible refine Kd.C_drewN ?_ _) | (with_reducible refine Kd.C_drew ?_))); (case side4 => exact (Kd.R_reads' HO212.out).2.1); rintro e w' ⟨rfl, ⟨nd, rfl⟩⟩) | (go_at_call 19; (with_reducible refine (impl_RangeSize.calls a0 a2 t214 _ A18.out).mono ?_); rintro e w' ⟨rfl, ⟨nd, rfl⟩⟩) | (go_at_call 20; (with_reducible refine (spec_Nodes.calls kj3 a0 a2 t215 _ A19.out).mono ?_); rintro e w28 ⟨v216, rfl, ho0, hb⟩; have n0_ := Aside0.mk (Kd.R_below (by (with_reducible repeat (first | apply Kd.R_alloc | apply Kd.R_drewN | apply Kd.R_drew)); exact HO203.out) hb); have n1_ := Aside0.mk (Kd.R_elder' (by (with_reducible repeat (first | apply Kd.R_alloc | apply Kd.R_drewN | apply Kd.R_drew)); exact HO206.out) (Kd.R_base ho0) hb); have n2_ := Aside0.mk (Kd.R_elder' (by (with_reducible repeat (first | apply Kd.R_alloc | apply Kd.R_drewN | apply Kd.R_drew)); exact HO209.out) (Kd.R_base ho0) hb); have n3_ := Aside0.mk (Kd.R_elder' (by (with_reducible repeat (first | apply Kd.R_alloc | apply Kd.R_drewN | apply Kd.R_drew)); exact HO212.out) (Kd.R_base ho0) hb); have n4_ := Aside0.mk (Kd.R_lower (Kd.R_new' (Kd.R_new' (Kd.R_new' ho0 (Kd.R_lt (by (with_reducible repeat (first | apply Kd.R_alloc | apply Kd.R_drewN | apply Kd.R_drew)); exact HO206.out))) (Kd.R_lt (by (with_reducible repeat (first | apply Kd.R_alloc | apply Kd.R_drewN | apply Kd.R_drew)); exact HO209.out))) (Kd.R_lt (by (with_reducible repeat (first | apply Kd.R_alloc | apply Kd.R_drewN | apply Kd.R_drew)); exact HO212.out))) (below_size (by repeat (first | (with_reducible first | exact HB.out | apply below_alloc | apply pw_below_drewN | apply below_drew1) | exact HB.out)))); have n5_ := Aside0.mk (below_step (by repeat (first | (with_reducible first | exact HB.out | apply below_alloc | apply pw_below_drewN | apply below_drew1) | exact HB.out)) hb); clear HO203; clear HO206; clear HO209; clear HO212; clear HB; have HO203 := n0_; have HO206 := n1_; have HO209 := n2_; have HO212 := n3_; have HO217 := n4_; have HB := n5_; clear n0_ n1_ n2_ n3_ n4_ n5_; (try clear hb); (try clear hb2); (try clear hk); (try clear hi); (try clear ho0); obtain ⟨Ao29, co29, eo29⟩ := Kd.R_slice HO217.out; subst eo29))
              go_ret
              exact ⟨by first | rfl | (simp [errW_none, errW_some] <;> rfl) | (simp [*, errW_none, errW_some] <;> rfl), by repeat (first | (with_reducible first | exact HB.out | apply below_alloc | apply pw_below_drewN | apply below_drew1) | exact HB.out)⟩
            · replace c17 := Bool.eq_false_iff.mpr c17
              subst c17
              have H1 : (some false) = some r := by rw [if_neg (show ¬ (false = true) by decide)] at H; exact H
              clear H
              have H := H1
              clear H1
              obtain rfl := Option.some.inj H
              go_wp2_with (first | ((with_reducible refine gate_callee (f := 15) rfl ?_); refine goesL_ (some 32) rfl rfl Tryd.func15 (by kernel_rfl) rfl #[.int .u64 a0, .int .u64 a1, .int .u64 a2] rfl (by (try simp only [List.map_toArray, List.map_cons, List.map_nil]); first | done | rfl | (simp only [List.length_drop, List.length_take]; rfl)) ?_; (with_reducible refine (impl_MergePath.calls a0 a1 a2 t199 t200 _ ?side1 A9.out).mono ?_); (case side1 => exact GlobT.below hGT (by repeat (first | (with_reducible first | exact HB.out | apply below_alloc | apply pw_below_drewN | apply below_drew1) | exact HB.out))); rintro e w' ⟨rfl, ⟨nd, rfl⟩⟩; refine ⟨_, rfl, ?_⟩) | ((with_reducible refine gate_callee (f := 16) rfl ?_); refine goesL_ (some 38) rfl rfl Tryd.func16 (by kernel_rfl) rfl #[.int .u64 a0, .int .u64 a1, .int .u64 a2] rfl (by (try simp only [List.map_toArray, List.map_cons, List.map_nil]); first | done | rfl | (simp only [List.length_drop, List.length_take]; rfl)) ?_; (with_reducible refine (spec_MergedLevels.calls kj3 a0 a1 a2 t201 _ A10.out).mono ?_); rintro e w30 ⟨v202, rfl, ho0, hb⟩; refine ⟨_, rfl, ?_⟩; have n0_ := Aside0.mk (Kd.R_lower ho0 (below_size (by repeat (first | (with_reducible first | exact HB.out | apply below_alloc | apply pw_below_drewN | apply below_drew1) | exact HB.out)))); have n1_ := Aside0.mk (below_step (by repeat (first | (with_reducible first | exact HB.out | apply below_alloc | apply pw_below_drewN | apply below_drew1) | exact HB.out)) hb); clear HB; have HO203 := n0_; have HB := n1_; clear n0_ n1_; (try clear hb); (try clear hb2); (try clear hk); (try clear hi); (try clear ho0); obtain ⟨Ao31, co31, eo31⟩ := Kd.R_slice HO203.out; subst eo31) | (go_at_call 18; refine calls_of_args (args' := #[.int .u64 a0, .int .u64 a2, .slice none ([] : List (S70)).length 0]) (by rfl) ?_; (with_reducible refine (impl_RangeNodes.calls kj3 a0 a2 _ _ ([] : List (S70)) t204 _ ?side3 ?side1 ?side2 A13.out).mono ?_); (case side1 => exact Kd.C_nil _ _); (case side2 => exact Nat.le_refl _); (case side3 => exact GlobT.below hGT (by repeat (first | (with_reducible first | exact HB.out | apply below_alloc | apply pw_below_drewN | apply below_drew1) | exact HB.out))); rintro e w32 ⟨v205, rfl, ho0, hb⟩; have n0_ := Aside0.mk (Kd.R_below (by (with_reducible repeat (first | apply Kd.R_alloc | apply Kd.R_drewN | apply Kd.R_drew)); exact HO203.out) hb); have n1_ := Aside0.mk (Kd.R_lower ho0 (below_size (by repeat (first | (with_reducible first | exact HB.out | apply below_alloc | apply pw_below_drewN | apply below_drew1) | exact HB.out)))); have n2_ := Aside0.mk (below_step (by repeat (first | (with_reducible first | exact HB.out | apply below_alloc | apply pw_below_drewN | apply below_drew1) | exact HB.out)) hb); clear HO203; clear HB; have HO203 := n0_; have HO206 := n1_; have HB := n2_; clear n0_ n1_ n2_; (try clear hb); (try clear hb2); (try clear hk); (try clear hi); (try clear ho0)) | (go_at_call 18; refine calls_of_args (args' := #[.int .u64 a0, .int .u64 a1, .slice none ([] : List (S70)).length 0]) (by rfl) ?_; (with_reducible refine (impl_RangeNodes.calls kj3 a0 a1 _ _ ([] : List (S70)) t207 _ ?side3 ?side1 ?side2 A14.out).mono ?_); (case side1 => exact Kd.C_nil _ _); (case side2 => exact Nat.le_refl _); (case side3 => exact GlobT.below hGT (by repeat (first | (with_reducible first | exact HB.out | apply below_alloc | apply pw_below_drewN | apply below_drew1) | exact HB.out))); rintro e w33 ⟨v208, rfl, ho0, hb⟩; have n0_ := Aside0.mk (Kd.R_below (by (with_reducible repeat (first | apply Kd.R_alloc | apply Kd.R_drewN | apply Kd.R_drew)); exact HO203.out) hb); have n1_ := Aside0.mk (Kd.R_elder' (by (with_reducible repeat (first | apply Kd.R_alloc | apply Kd.R_drewN | apply Kd.R_drew)); exact HO206.out) (Kd.R_base ho0) hb); have n2_ := Aside0.mk (Kd.R_lower (Kd.R_new' ho0 (Kd.R_lt (by (with_reducible repeat (first | apply Kd.R_alloc | apply Kd.R_drewN | apply Kd.R_drew)); exact HO206.out))) (below_size (by repeat (first | (with_reducible first | exact HB.out | apply below_alloc | apply pw_below_drewN | apply below_drew1) | exact HB.out)))); have n3_ := Aside0.mk (below_step (by repeat (first | (with_reducible first | exact HB.out | apply below_alloc | apply pw_below_drewN | apply below_drew1) | exact HB.out)) hb); clear HO203; clear HO206; clear HB; have HO203 := n0_; have HO206 := n1_; have HO209 := n2_; have HB := n3_; clear n0_ n1_ n2_ n3_; (try clear hb); (try clear hb2); (try clear hk); (try clear hi); (try clear ho0); obtain ⟨Ao34, co34, eo34⟩ := Kd.R_slice HO209.out; subst eo34) | (go_at_call 18; (with_reducible refine (impl_RangeNodes.calls kj3 a1 a2 _ _ t207 t210 _ ?side3 ?side1 ?side2 A15.out).mono ?_); (case side1 => repeat (first | exact (Kd.R_reads' HO209.out).2.2 | (with_reducible refine Kd.C_alloc ?_ _) | (with_reducible refine Kd.C_drewN ?_ _) | (with_reducible refine Kd.C_drew ?_))); (case side2 => exact (Kd.R_reads' HO209.out).2.1); (case side3 => exact GlobT.below hGT (by repeat (first | (with_reducible first | exact HB.out | apply below_alloc | apply pw_below_drewN | apply below_drew1) | exact HB.out))); rintro e w35 ⟨v211, rfl, ho0, hb⟩; have n0_ := Aside0.mk (Kd.R_below (by (with_reducible repeat (first | apply Kd.R_alloc | apply Kd.R_drewN | apply Kd.R_drew)); exact HO203.out) hb); have n1_ := Aside0.mk (Kd.R_elder' (by (with_reducible repeat (first | apply Kd.R_alloc | apply Kd.R_drewN | apply Kd.R_drew)); exact HO206.out) (Kd.R_base ho0) hb); have n2_ := Aside0.mk (Kd.R_elder' (by (with_reducible repeat (first | apply Kd.R_alloc | apply Kd.R_drewN | apply Kd.R_drew)); exact HO209.out) (Kd.R_base ho0) hb); have n3_ := Aside0.mk (Kd.R_lower (Kd.R_new' (Kd.R_new' ho0 (Kd.R_lt (by (with_reducible repeat (first | apply Kd.R_alloc | apply Kd.R_drewN | apply Kd.R_drew)); exact HO206.out))) (Kd.R_lt (by (with_reducible repeat (first | apply Kd.R_alloc | apply Kd.R_drewN | apply Kd.R_drew)); exact HO209.out))) (below_size (by repeat (first | (with_reducible first | exact HB.out | apply below_alloc | apply pw_below_drewN | apply below_drew1) | exact HB.out)))); have n4_ := Aside0.mk (below_step (by repeat (first | (with_reducible first | exact HB.out | apply below_alloc | apply pw_below_drewN | apply below_drew1) | exact HB.out)) hb); clear HO203; clear HO206; clear HO209; clear HB; have HO203 := n0_; have HO206 := n1_; have HO209 := n2_; have HO212 := n3_; have HB := n4_; clear n0_ n1_ n2_ n3_ n4_; (try clear hb); (try clear hb2); (try clear hk); (try clear hi); (try clear ho0); obtain ⟨Ao36, co36, eo36⟩ := Kd.R_slice HO206.out; subst eo36; obtain ⟨Ao37, co37, eo37⟩ := Kd.R_slice HO212.out; subst eo37) | (go_at_call 17; (with_reducible refine (spec_SameNodes.calls kj3 _ _ t204 _ _ t210 false _ ?side1 ?side2 ?side3 ?side4 A16.out).mono ?_); (case side1 => repeat (first | exact (Kd.R_reads' HO206.out).2.2 | (with_reducible refine Kd.C_alloc ?_ _) | (with_reducible refine Kd.C_drewN ?_ _) | (with_reducible refine Kd.C_drew ?_))); (case side2 => exact (Kd.R_reads' HO206.out).2.1); (case side3 => repeat (first | exact (Kd.R_reads' HO212.out).2.2 | (with_reducible refine Kd.C_alloc ?_ _) | (with_reducible refine Kd.C_drewN ?_ _) | (with_reducible refine Kd.C_drew ?_))); (case side4 => exact (Kd.R_reads' HO212.out).2.1); rintro e w' ⟨rfl, ⟨nd, rfl⟩⟩))
              go_ret
              exact ⟨by first | rfl | (simp [errW_none, errW_some] <;> rfl) | (simp [*, errW_none, errW_some] <;> rfl), by repeat (first | (with_reducible first | exact HB.out | apply below_alloc | apply pw_below_drewN | apply below_drew1) | exact HB.out)⟩
          · rw [if_neg c12] at H
            have c12b0 : decide (t200 ≤ t199) = false := decide_eq_false c12
            clear c12
            obtain rfl := Option.some.inj H
            go_wp2_with (first | ((with_reducible refine gate_callee (f := 15) rfl ?_); refine goesL_ (some 32) rfl rfl Tryd.func15 (by kernel_rfl) rfl #[.int .u64 a0, .int .u64 a1, .int .u64 a2] rfl (by (try simp only [List.map_toArray, List.map_cons, List.map_nil]); first | done | rfl | (simp only [List.length_drop, List.length_take]; rfl)) ?_; (with_reducible refine (impl_MergePath.calls a0 a1 a2 t199 t200 _ ?side1 A9.out).mono ?_); (case side1 => exact GlobT.below hGT (by repeat (first | (with_reducible first | exact HB.out | apply below_alloc | apply pw_below_drewN | apply below_drew1) | exact HB.out))); rintro e w' ⟨rfl, ⟨nd, rfl⟩⟩; refine ⟨_, rfl, ?_⟩) | ((with_reducible refine gate_callee (f := 16) rfl ?_); refine goesL_ (some 38) rfl rfl Tryd.func16 (by kernel_rfl) rfl #[.int .u64 a0, .int .u64 a1, .int .u64 a2] rfl (by (try simp only [List.map_toArray, List.map_cons, List.map_nil]); first | done | rfl | (simp only [List.length_drop, List.length_take]; rfl)) ?_; (with_reducible refine (spec_MergedLevels.calls kj3 a0 a1 a2 t201 _ A10.out).mono ?_); rintro e w38 ⟨v202, rfl, ho0, hb⟩; refine ⟨_, rfl, ?_⟩; have n0_ := Aside0.mk (Kd.R_lower ho0 (below_size (by repeat (first | (with_reducible first | exact HB.out | apply below_alloc | apply pw_below_drewN | apply below_drew1) | exact HB.out)))); have n1_ := Aside0.mk (below_step (by repeat (first | (with_reducible first | exact HB.out | apply below_alloc | apply pw_below_drewN | apply below_drew1) | exact HB.out)) hb); clear HB; have HO203 := n0_; have HB := n1_; clear n0_ n1_; (try clear hb); (try clear hb2); (try clear hk); (try clear hi); (try clear ho0); obtain ⟨Ao39, co39, eo39⟩ := Kd.R_slice HO203.out; subst eo39))
            go_ret
            exact ⟨by first | rfl | (simp [errW_none, errW_some] <;> rfl) | (simp [*, errW_none, errW_some] <;> rfl), by repeat (first | (with_reducible first | exact HB.out | apply below_alloc | apply pw_below_drewN | apply below_drew1) | exact HB.out)⟩
        · rw [if_neg c11] at H
          have c11b0 : ((t201.length : Int) == 0) = false := beq_eq_false_iff_ne.mpr c11
          have c11b1 : ((t201.length : Int) != 0) = true := bne_iff_ne.mpr c11
          have c11b2 : ¬ (t201 = []) := fun h_ => c11 (by rw [h_]; rfl)
          have HC40 := Aside0.mk H
          clear H
          go_upto_region 7 with (first | ((with_reducible refine gate_callee (f := 15) rfl ?_); refine goesL_ (some 32) rfl rfl Tryd.func15 (by kernel_rfl) rfl #[.int .u64 a0, .int .u64 a1, .int .u64 a2] rfl (by (try simp only [List.map_toArray, List.map_cons, List.map_nil]); first | done | rfl | (simp only [List.length_drop, List.length_take]; rfl)) ?_; (with_reducible refine (impl_MergePath.calls a0 a1 a2 t199 t200 _ ?side1 A9.out).mono ?_); (case side1 => exact GlobT.below hGT (by repeat (first | (with_reducible first | exact HB.out | apply below_alloc | apply pw_below_drewN | apply below_drew1) | exact HB.out))); rintro e w' ⟨rfl, ⟨nd, rfl⟩⟩; refine ⟨_, rfl, ?_⟩) | ((with_reducible refine gate_callee (f := 16) rfl ?_); refine goesL_ (some 38) rfl rfl Tryd.func16 (by kernel_rfl) rfl #[.int .u64 a0, .int .u64 a1, .int .u64 a2] rfl (by (try simp only [List.map_toArray, List.map_cons, List.map_nil]); first | done | rfl | (simp only [List.length_drop, List.length_take]; rfl)) ?_; (with_reducible refine (spec_MergedLevels.calls kj3 a0 a1 a2 t201 _ A10.out).mono ?_); rintro e w41 ⟨v202, rfl, ho0, hb⟩; refine ⟨_, rfl, ?_⟩; have n0_ := Aside0.mk (Kd.R_lower ho0 (below_size (by repeat (first | (with_reducible first | exact HB.out | apply below_alloc | apply pw_below_drewN | apply below_drew1) | exact HB.out)))); have n1_ := Aside0.mk (below_step (by repeat (first | (with_reducible first | exact HB.out | apply below_alloc | apply pw_below_drewN | apply below_drew1) | exact HB.out)) hb); clear HB; have HO203 := n0_; have HB := n1_; clear n0_ n1_; (try clear hb); (try clear hb2); (try clear hk); (try clear hi); (try clear ho0); obtain ⟨Ao42, co42, eo42⟩ := Kd.R_slice HO203.out; subst eo42))
          (try simp only [Act.put, List.setIfInBounds_toArray, List.set_cons_zero, List.set_cons_succ])
          go_cut [79] (fun v79 wc => ∃ (kq : Nat) (x79_39 : Bool), v79 = .bool x79_39 ∧ Aside0 (laws_FnMergePath.j1 kq t199 t201 x79_39 = some r) ∧ Aside0 (kq ≤ kj3) ∧ Aside0 (Kd.R (Kd.int .u64) 23 wc w.heap.size (fun _ => True) (.slice Ao42 t201.length co42) t201) ∧ Aside0 (Below w.heap.size w wc))
          case first =>
            have H := HC40.out
            clear HC40
            by_cases c43 : t200 ≤ t199
            · rw [if_pos c43] at H
              have c43b0 : decide (t200 ≤ t199) = true := decide_eq_true c43
              clear c43
              (first | rw [c43b0] | (simp only [i64_w, i32_w]; rw [c43b0]) | skip)
              have H' := Aside0.mk H
              clear H
              go_wp2
              go_meet
              case rel => exact ⟨_, (true), (by first | rfl | (simp; done) | (simp [*]; done)), H', ⟨by have := HJ3.out; first | omega | exact Nat.le_refl _⟩, ⟨by (with_reducible repeat (first | apply Kd.R_alloc | apply Kd.R_drewN | apply Kd.R_drew)); exact HO203.out⟩, ⟨by repeat (first | (with_reducible first | exact HB.out | apply below_alloc | apply pw_below_drewN | apply below_drew1) | exact HB.out)⟩⟩
            · rw [if_neg c43] at H
              have c43b0 : decide (t200 ≤ t199) = false := decide_eq_false c43
              clear c43
              (first | rw [c43b0] | (simp only [i64_w, i32_w]; rw [c43b0]) | skip)
              have H' := Aside0.mk H
              clear H
              go_wp2
              go_meet
              case rel => exact ⟨_, (((wrap64 (IntKind.u64.wrap (t200 - t199))) != (t201.length : Int))), (by first | rfl | (simp; done) | (simp [*]; done)), H', ⟨by have := HJ3.out; first | omega | exact Nat.le_refl _⟩, ⟨by (with_reducible repeat (first | apply Kd.R_alloc | apply Kd.R_drewN | apply Kd.R_drew)); exact HO203.out⟩, ⟨by repeat (first | (with_reducible first | exact HB.out | apply below_alloc | apply pw_below_drewN | apply below_drew1) | exact HB.out)⟩⟩
          case rest =>
            clear HC40
            try clear c1
            try clear p2
            try clear c3
            try clear c4
            try clear c5
            try clear c5b0
            try clear c6
            try clear c6b0
            try clear p6
            try clear c7
            try clear c7b0
            try clear c7b1
            try clear c8
            try clear c11
            try clear c11b0
            try clear c11b1
            try clear c11b2
            try clear c12
            try clear c12b0
            try clear c15
            try clear c16
            try clear c17
            try clear c43
            try clear c43b0
            try clear p2
            obtain ⟨kq, x79_39, rfl, HA, HJ39, HO_9, HB⟩ := hcut
            cases kq with
            | zero => exact absurd HA.out (by simp [laws_FnMergePath.j1])
            | succ kj39 =>
              have H := HA.out
              clear HA
              simp only [laws_FnMergePath.j1] at H
              by_cases c44 : x79_39 = true
              · subst c44
                have H1 : (some false) = some r := by rw [if_pos rfl] at H; exact H
                clear H
                have H := H1
                clear H1
                obtain rfl := Option.some.inj H
                go_wp2
                go_ret
                exact ⟨by first | rfl | (simp [errW_none, errW_some] <;> rfl) | (simp [*, errW_none, errW_some] <;> rfl), by repeat (first | (with_reducible first | exact HB.out | apply below_alloc | apply pw_below_drewN | apply below_drew1) | exact HB.out)⟩
              · replace c44 := Bool.eq_false_iff.mpr c44
                subst c44
                have H1 : (laws_FnMergePath.l0 kj39 t199 t201 (t201.length : Int) 0) = some r := by rw [if_neg (show ¬ (false = true) by decide)] at H; exact H
                clear H
                have H := H1
                clear H1
                have H' := Aside0.mk H
                clear H
                go_wp2
                try simp only [Act.put, List.setIfInBounds_toArray, List.set_cons_zero, List.set_cons_succ]
                go_loopg [82] kj39 (fun kq v82 w' => ∃ (x82_3 : Int), v82 = .int .i64 x82_3 ∧ Aside0 (laws_FnMergePath.l0 kq t199 t201 (t201.length : Int) x82_3 = some r) ∧ Aside0 (kq ≤ kj39) ∧ Aside0 (Kd.R (Kd.int .u64) 23 w' w.heap.size (fun _ => True) (.slice Ao42 t201.length co42) t201) ∧ Aside0 (Below w.heap.size w w'))
                case atStart => exact ⟨(0), (by first | rfl | (simp; done) | (simp [*]; done)), H', ⟨Nat.le_refl _⟩, ⟨by (with_reducible repeat (first | apply Kd.R_alloc | apply Kd.R_drewN | apply Kd.R_drew)); exact HO_9.out⟩, ⟨by repeat (first | (with_reducible first | exact HB.out | apply below_alloc | apply pw_below_drewN | apply below_drew1) | exact HB.out)⟩⟩
                case round =>
                  clear H'
                  try clear c1
                  try clear p2
                  try clear c3
                  try clear c4
                  try clear c5
                  try clear c5b0
                  try clear c6
                  try clear c6b0
                  try clear p6
                  try clear c7
                  try clear c7b0
                  try clear c7b1
                  try clear c8
                  try clear c11
                  try clear c11b0
                  try clear c11b1
                  try clear c11b2
                  try clear c12
                  try clear c12b0
                  try clear c15
                  try clear c16
                  try clear c17
                  try clear c43
                  try clear c43b0
                  try clear c44
                  try clear p2
                  try clear p6
                  obtain ⟨x82_3, rfl, HA, HK3, HO_80, HB⟩ := hrel
                  cases gk with
                  | zero => exact absurd HA.out (by simp [laws_FnMergePath.l0])
                  | succ k3 =>
                    have H := HA.out
                    clear HA
                    simp only [laws_FnMergePath.l0] at H
                    by_cases c45 : x82_3 < (t201.length : Int)
                    · rw [if_pos c45] at H
                      have c45b0 : decide (x82_3 < (t201.length : Int)) = true := decide_eq_true c45
                      clear c45
                      by_cases c46 : 0 ≤ x82_3
                      · rw [if_pos c46] at H
                        have c46b0 : decide (0 ≤ x82_3) = true := decide_eq_true c46
                        clear c46
                        by_cases c47 : x82_3 < (t201.length : Int)
                        · rw [if_pos c47] at H
                          have c47b0 : decide (x82_3 < (t201.length : Int)) = true := decide_eq_true c47
                          clear c47
                          by_cases c48 : (rd t201 x82_3) = (IntKind.u64.wrap ((IntKind.u64.wrap (t199 + 1)) + (IntKind.u64.wrap (x82_3))))
                          · rw [if_pos c48] at H
                            have c48b0 : ((rd t201 x82_3) == (IntKind.u64.wrap ((IntKind.u64.wrap (t199 + 1)) + (IntKind.u64.wrap (x82_3))))) = true := beq_iff_eq.mpr c48
                            have c48b1 : ((rd t201 x82_3) != (IntKind.u64.wrap ((IntKind.u64.wrap (t199 + 1)) + (IntKind.u64.wrap (x82_3))))) = false := bne_eq_false_iff_eq.mpr c48
                            clear c48
                            have H' := Aside0.mk H
                            clear H
                            have p218 : 0 ≤ (x82_3 : Int) := of_decide_eq_true (by first | (with_reducible assumption) | assumption)
                            have q218 : x82_3 < (t201.length : Int) := of_decide_eq_true (by first | (with_reducible assumption) | assumption)
                            obtain ⟨ad218, e218, hx218_0⟩ := Kd.at_int (Kd.R_reads' HO_80.out).2.2 x82_3 p218 q218
                            cases e218
                            replace p218 := eq_true p218
                            replace q218 := eq_true q218
                            go_wp2
                            go_roundg k3
                            case measure => have := HJ3.out; have := HJ39.out; have := HK3.out; omega
                            case rel => exact ⟨(wrap64 (x82_3 + 1)), (by first | rfl | (simp; done) | (simp [*]; done)), H', ⟨by have := HJ3.out; have := HJ39.out; have := HK3.out; omega⟩, ⟨by (with_reducible repeat (first | apply Kd.R_alloc | apply Kd.R_drewN | apply Kd.R_drew)); exact HO_80.out⟩, ⟨by repeat (first | (with_reducible first | exact HB.out | apply below_alloc | apply pw_below_drewN | apply below_drew1) | exact HB.out)⟩⟩
                          · rw [if_neg c48] at H
                            have c48b0 : ((rd t201 x82_3) == (IntKind.u64.wrap ((IntKind.u64.wrap (t199 + 1)) + (IntKind.u64.wrap (x82_3))))) = false := beq_eq_false_iff_ne.mpr c48
                            have c48b1 : ((rd t201 x82_3) != (IntKind.u64.wrap ((IntKind.u64.wrap (t199 + 1)) + (IntKind.u64.wrap (x82_3))))) = true := bne_iff_ne.mpr c48
                            obtain rfl := Option.some.inj H
                            have p218 : 0 ≤ (x82_3 : Int) := of_decide_eq_true (by first | (with_reducible assumption) | assumption)
                            have q218 : x82_3 < (t201.length : Int) := of_decide_eq_true (by first | (with_reducible assumption) | assumption)
                            obtain ⟨ad218, e218, hx218_0⟩ := Kd.at_int (Kd.R_reads' HO_80.out).2.2 x82_3 p218 q218
                            cases e218
                            replace p218 := eq_true p218
                            replace q218 := eq_true q218
                            go_wp2
                            go_ret
                            exact ⟨by first | rfl | (simp [errW_none, errW_some] <;> rfl) | (simp [*, errW_none, errW_some] <;> rfl), by repeat (first | (with_reducible first | exact HB.out | apply below_alloc | apply pw_below_drewN | apply below_drew1) | exact HB.out)⟩
                        · rw [if_neg c47] at H
                          exact absurd H (by simp)
                      · rw [if_neg c46] at H
                        exact absurd H (by simp)
                    · rw [if_neg c45] at H
                      have c45b0 : decide (x82_3 < (t201.length : Int)) = false := decide_eq_false c45
                      clear c45
                      obtain rfl := Option.some.inj H
                      go_wp2
                      go_ret
                      exact ⟨by first | rfl | (simp [errW_none, errW_some] <;> rfl) | (simp [*, errW_none, errW_some] <;> rfl), by repeat (first | (with_reducible first | exact HB.out | apply below_alloc | apply pw_below_drewN | apply below_drew1) | exact HB.out)⟩

/-- THE ONE PURE STATEMENT of laws_FnMergePath: yours. -/
def laws_FnMergePath.Pure : Prop := ∀ (a0 : Int) (a1 : Int) (a2 : Int), (Lit.int .u64 a0).wf = true → (Lit.int .u64 a1).wf = true → (Lit.int .u64 a2).wf = true → ∃ k, laws_FnMergePath.f k a0 a1 a2 = some true
theorem laws_FnMergePath.walk (P : laws_FnMergePath.Pure) (a0 : Int) (a1 : Int) (a2 : Int) (w : World) (hGT : GlobT w) (w0 : (Lit.int .u64 a0).wf = true) (w1 : (Lit.int .u64 a1).wf = true) (w2 : (Lit.int .u64 a2).wf = true) :
    Calls Tryd.prog 3 #[.int .u64 a0, .int .u64 a1, .int .u64 a2] w fun e w' => e = .returned (.bool true) ∧ Below w.heap.size w w' := by
  obtain ⟨k, h⟩ := P a0 a1 a2 w0 w1 w2
  refine (laws_FnMergePath.calls k a0 a1 a2 true w hGT h).mono ?_
  rintro e w' ⟨rfl, hd⟩
  exact ⟨rfl, hd⟩

/-! ### laws_zzFits2: function 27 -/
def laws_zzFits2.l0 : Nat → List (List Int) → Int → Int → Option (Bool)
  | 0, _, _, _ => none
  | k + 1, x8, x9, x10 => if x10 < x9 then (if 0 ≤ x10 then (if x10 < (x8.length : Int) then (if ((rd_L4 x8 x10).length : Int) > 2147483647 then (some false) else (laws_zzFits2.l0 k x8 x9 (wrap64 (x10 + 1)))) else (none)) else (none)) else (some true)
def laws_zzFits2.f (k : Nat) (l0 : List (List Int)) : Option (Bool) := if (l0.length : Int) > 2147483647 then (some false) else (laws_zzFits2.l0 k l0 (l0.length : Int) 0)
theorem laws_zzFits2.mono_l : ∀ k, (∀ y0 y1 y2, LeO (laws_zzFits2.l0 k y0 y1 y2) (laws_zzFits2.l0 (k + 1) y0 y1 y2))
  | 0 => fun _ _ _ r h => by simp [laws_zzFits2.l0] at h
  | k + 1 => by
    have ih0 := laws_zzFits2.mono_l k
    · intro y0 y1 y2
      unfold laws_zzFits2.l0
      repeat' first
      | (with_reducible exact ih0 _ _ _)
      | (with_reducible exact LeO.refl _)
      | (with_reducible exact LeO.none _)
      | (with_reducible refine LeO.ite ?_ ?_)
      | (with_reducible refine LeO.bind ?_ (fun _ => ?_))
      | exact ih0 _ _ _
      | exact LeO.none _
      | refine LeO.ite ?_ ?_
      | refine LeO.bind ?_ (fun _ => ?_)
theorem laws_zzFits2.mono : ∀ a0 k, LeO (laws_zzFits2.f k a0) (laws_zzFits2.f (k + 1) a0) := by
  intro a0 k
  have ih0 := laws_zzFits2.mono_l k
  unfold laws_zzFits2.f
  repeat' first
      | (with_reducible exact ih0 _ _ _)
      | (with_reducible exact LeO.refl _)
      | (with_reducible exact LeO.none _)
      | (with_reducible refine LeO.ite ?_ ?_)
      | (with_reducible refine LeO.bind ?_ (fun _ => ?_))
      | exact ih0 _ _ _
      | exact LeO.none _
      | refine LeO.ite ?_ ?_
      | refine LeO.bind ?_ (fun _ => ?_)
set_option maxHeartbeats 8000000 in
set_option maxRecDepth 100000 in
theorem laws_zzFits2.calls (k : Nat) (A0 : Option Addr) (c0 : Nat) (l0 : List (List Int)) (r : Bool) (w : World) (hr0 : Kd.C (Kd.slice 5 (Kd.int .u8)) w A0 l0.length l0) (hc0 : l0.length ≤ c0) (h : laws_zzFits2.f k l0 = some r) :
    Calls Tryd.prog 27 #[.slice A0 l0.length c0] w fun e w' => e = .returned (.bool r) ∧ Drawn0 w w' := by
  have HR0 := Aside0.mk hr0
  have HC0 := Aside0.mk hc0
  clear hr0 hc0
  have H : (if (l0.length : Int) > 2147483647 then (some false) else (laws_zzFits2.l0 k l0 (l0.length : Int) 0)) = some r := h
  clear h
  by_cases c2 : (l0.length : Int) > 2147483647
  · rw [if_pos c2] at H
    have c2b0 : decide (2147483647 < (l0.length : Int)) = true := decide_eq_true c2
    have c2b1 : decide (2147483647 < l0.length) = true := decide_eq_true (by omega)
    clear c2
    obtain rfl := Option.some.inj H
    go_enter Tryd.func27, Tryd.ntmps27
    go_wp2
    go_ret
    exact ⟨by first | rfl | (simp; done) | (simp [*]; done), by repeat (first | exact Drawn0.refl _ | apply Drawn0.step)⟩
  · rw [if_neg c2] at H
    have c2b0 : decide (2147483647 < (l0.length : Int)) = false := decide_eq_false c2
    have c2b1 : decide (2147483647 < l0.length) = false := decide_eq_false (by omega)
    clear c2
    have H' := Aside0.mk H
    clear H
    go_enter Tryd.func27, Tryd.ntmps27
    go_wp2
    try simp only [Act.put, List.setIfInBounds_toArray, List.set_cons_zero, List.set_cons_succ]
    go_loopg [10] k (fun kq v10 w' => ∃ (x10_1 : Int), v10 = .int .i64 x10_1 ∧ Aside0 (laws_zzFits2.l0 kq l0 (l0.length : Int) x10_1 = some r) ∧ Aside0 (kq ≤ k) ∧ Drawn0 w w')
    case atStart => exact ⟨(0), (by first | rfl | (simp; done) | (simp [*]; done)), H', ⟨Nat.le_refl _⟩, by repeat (first | exact Drawn0.refl _ | apply Drawn0.step)⟩
    case round =>
      clear H'
      try clear c2
      try clear c2b0
      try clear c2b1
      try clear p2
      obtain ⟨x10_1, rfl, HA, HK1, ⟨m1, rfl⟩⟩ := hrel
      cases gk with
      | zero => exact absurd HA.out (by simp [laws_zzFits2.l0])
      | succ k1 =>
        have H := HA.out
        clear HA
        simp only [laws_zzFits2.l0] at H
        by_cases c3 : x10_1 < (l0.length : Int)
        · rw [if_pos c3] at H
          have c3b0 : decide (x10_1 < (l0.length : Int)) = true := decide_eq_true c3
          clear c3
          by_cases c4 : 0 ≤ x10_1
          · rw [if_pos c4] at H
            have c4b0 : decide (0 ≤ x10_1) = true := decide_eq_true c4
            clear c4
            by_cases c5 : x10_1 < (l0.length : Int)
            · rw [if_pos c5] at H
              have c5b0 : decide (x10_1 < (l0.length : Int)) = true := decide_eq_true c5
              clear c5
              by_cases c6 : ((rd_L4 l0 x10_1).length : Int) > 2147483647
              · rw [if_pos c6] at H
                have c6b0 : decide (2147483647 < ((rd_L4 l0 x10_1).length : Int)) = true := decide_eq_true c6
                have c6b1 : decide (2147483647 < (rd_L4 l0 x10_1).length) = true := decide_eq_true (by omega)
                clear c6
                obtain rfl := Option.some.inj H
                have p219 : 0 ≤ (x10_1 : Int) := of_decide_eq_true (by first | (with_reducible assumption) | assumption)
                have q219 : x10_1 < (l0.length : Int) := of_decide_eq_true (by first | (with_reducible assumption) | assumption)
                obtain ⟨ad219, A219_0, c219_0, e219, hx219_0, hl219_0, hi219_0⟩ := at_L4 HR0.out x10_1 p219 q219
                cases e219
                have HR219_0 := Aside0.mk hi219_0
                have HC219_0 := Aside0.mk hl219_0
                clear hi219_0 hl219_0
                replace p219 := eq_true p219
                replace q219 := eq_true q219
                go_wp2
                go_ret
                exact ⟨by first | rfl | (simp; done) | (simp [*]; done), by repeat (first | exact Drawn0.refl _ | apply Drawn0.step)⟩
              · rw [if_neg c6] at H
                have c6b0 : decide (2147483647 < ((rd_L4 l0 x10_1).length : Int)) = false := decide_eq_false c6
                have c6b1 : decide (2147483647 < (rd_L4 l0 x10_1).length) = false := decide_eq_false (by omega)
                clear c6
                have H' := Aside0.mk H
                clear H
                have p219 : 0 ≤ (x10_1 : Int) := of_decide_eq_true (by first | (with_reducible assumption) | assumption)
                have q219 : x10_1 < (l0.length : Int) := of_decide_eq_true (by first | (with_reducible assumption) | assumption)
                obtain ⟨ad219, A219_0, c219_0, e219, hx219_0, hl219_0, hi219_0⟩ := at_L4 HR0.out x10_1 p219 q219
                cases e219
                have HR219_0 := Aside0.mk hi219_0
                have HC219_0 := Aside0.mk hl219_0
                clear hi219_0 hl219_0
                replace p219 := eq_true p219
                replace q219 := eq_true q219
                go_wp2
                go_roundg k1
                case measure => have := HK1.out; omega
                case rel => exact ⟨(wrap64 (x10_1 + 1)), (by first | rfl | (simp; done) | (simp [*]; done)), H', ⟨by have := HK1.out; omega⟩, by repeat (first | exact Drawn0.refl _ | apply Drawn0.step)⟩
            · rw [if_neg c5] at H
              exact absurd H (by simp)
          · rw [if_neg c4] at H
            exact absurd H (by simp)
        · rw [if_neg c3] at H
          have c3b0 : decide (x10_1 < (l0.length : Int)) = false := decide_eq_false c3
          clear c3
          obtain rfl := Option.some.inj H
          go_wp2
          go_ret
          exact ⟨by first | rfl | (simp; done) | (simp [*]; done), by repeat (first | exact Drawn0.refl _ | apply Drawn0.step)⟩

/-! ### laws_zzFits7: function 21 -/
def laws_zzFits7.f (k : Nat) (a0_0 : Int) (a0_1 : Int) (l0_2 : List (List Int)) : Option (Bool) := (laws_zzFits2.f k l0_2).bind fun t221 => (if t221 = true then (some true) else (some false))
theorem laws_zzFits7.mono : ∀ a0 a1 a2 k, LeO (laws_zzFits7.f k a0 a1 a2) (laws_zzFits7.f (k + 1) a0 a1 a2) := by
  intro a0 a1 a2 k
  unfold laws_zzFits7.f
  repeat' first
      | (with_reducible exact laws_zzFits2.mono _ _)
      | (with_reducible exact LeO.refl _)
      | (with_reducible exact LeO.none _)
      | (with_reducible refine LeO.ite ?_ ?_)
      | (with_reducible refine LeO.bind ?_ (fun _ => ?_))
      | exact laws_zzFits2.mono _ _
      | exact LeO.none _
      | refine LeO.ite ?_ ?_
      | refine LeO.bind ?_ (fun _ => ?_)
set_option maxHeartbeats 8000000 in
set_option maxRecDepth 100000 in
theorem laws_zzFits7.calls (k : Nat) (a0_0 : Int) (a0_1 : Int) (A0_2 : Option Addr) (c0_2 : Nat) (l0_2 : List (List Int)) (r : Bool) (w : World) (hr0_2 : Kd.C (Kd.slice 5 (Kd.int .u8)) w A0_2 l0_2.length l0_2) (hc0_2 : l0_2.length ≤ c0_2) (h : laws_zzFits7.f k a0_0 a0_1 l0_2 = some r) :
    Calls Tryd.prog 21 #[.agg #[.int .u64 a0_0, .int .u64 a0_1, .slice A0_2 l0_2.length c0_2]] w fun e w' => e = .returned (.bool r) ∧ Below w.heap.size w w' := by
  have hu40 := Tryd.underlying40
  have HR0_2 := Aside0.mk hr0_2
  have HC0_2 := Aside0.mk hc0_2
  clear hr0_2 hc0_2
  have HB := Aside0.mk (Below.refl w.heap.size w)
  have H : ((laws_zzFits2.f k l0_2).bind fun t221 => (if t221 = true then (some true) else (some false))) = some r := h
  clear h
  replace H := Option.bind_eq_some_iff.mp H
  obtain ⟨t221, A20, H⟩ := H
  replace H : (if t221 = true then (some true) else (some false)) = some r := H
  have A2 := Aside0.mk A20
  clear A20
  by_cases c3 : t221 = true
  · subst c3
    have H1 : (some true) = some r := by rw [if_pos rfl] at H; exact H
    clear H
    have H := H1
    clear H1
    obtain rfl := Option.some.inj H
    go_enter Tryd.func21, Tryd.ntmps21
    go_wp2_with (first | ((with_reducible refine gate_dst (N := 1) rfl ?_); refine box_event ?hg (N := 1) ?hd (cs := #[.int .u64 a0_0, .int .u64 a0_1, .slice A0_2 l0_2.length c0_2]) (t := 40) ?hr ?_; (case hd => rfl); (case hg => rfl); (case hr => first | (go_simp; done) | (go_simp; rfl)); intro gb220 hg w4 hbox hb; have n0_ := Aside0.mk (below_step (by repeat (first | (with_reducible first | exact HB.out | apply below_alloc | apply pw_below_drewN | apply below_drew1) | exact HB.out)) hb); have n1_ := Aside0.mk (hbox); have n2_ := Aside0.mk ((by rw [hg]; exact (below_size (by repeat (first | (with_reducible first | exact HB.out | apply below_alloc | apply pw_below_drewN | apply below_drew1) | exact HB.out))) : w.heap.size ≤ gb220)); have n3_ := Aside0.mk ((by rw [hg]; exact (below_size (by repeat (first | (with_reducible first | exact HB.out | apply below_alloc | apply pw_below_drewN | apply below_drew1) | exact HB.out))) : w.heap.size ≤ gb220)); clear HB; have HB := n0_; have BK220 := n1_; have GW220 := n2_; have GE220 := n3_; clear n0_ n1_ n2_ n3_; clear hb hbox hg; have hcz5_0 : w4.cell? ⟨gb220, 0, none⟩ = some (.int .u64 a0_0) := (blk_cell BK220.out 0).trans rfl; have hcz5_1 : w4.cell? ⟨gb220, 1, none⟩ = some (.int .u64 a0_1) := (blk_cell BK220.out 1).trans rfl; have hcz5_2 : w4.cell? ⟨gb220, 2, none⟩ = some (.slice A0_2 l0_2.length c0_2) := (blk_cell BK220.out 2).trans rfl; have hfz5_0 := blk_frozen BK220.out 0; have hfz5_1 := blk_frozen BK220.out 1; have hfz5_2 := blk_frozen BK220.out 2) | ((with_reducible refine gate_callee (f := 27) rfl ?_); refine goesL_ (some 5) rfl rfl Tryd.func27 (by kernel_rfl) rfl #[.slice A0_2 l0_2.length c0_2] rfl (by (try simp only [List.map_toArray, List.map_cons, List.map_nil]); first | done | rfl | (simp only [List.length_drop, List.length_take]; rfl)) ?_; (with_reducible refine (laws_zzFits2.calls k _ _ l0_2 true _ ?side1 ?side2 A2.out).mono ?_); (case side1 => repeat (first | exact (Kd.C_below HR0_2.out HB.out) | (with_reducible refine Kd.C_alloc ?_ _) | (with_reducible refine Kd.C_drewN ?_ _) | (with_reducible refine Kd.C_drew ?_))); (case side2 => exact HC0_2.out); rintro e w' ⟨rfl, ⟨nd, rfl⟩⟩; refine ⟨_, rfl, ?_⟩))
    go_ret
    exact ⟨by first | rfl | (simp [errW_none, errW_some] <;> rfl) | (simp [*, errW_none, errW_some] <;> rfl), by repeat (first | (with_reducible first | exact HB.out | apply below_alloc | apply pw_below_drewN | apply below_drew1 | refine below_set ?_ GE220.out) | exact HB.out)⟩
  · replace c3 := Bool.eq_false_iff.mpr c3
    subst c3
    have H1 : (some false) = some r := by rw [if_neg (show ¬ (false = true) by decide)] at H; exact H
    clear H
    have H := H1
    clear H1
    obtain rfl := Option.some.inj H
    go_enter Tryd.func21, Tryd.ntmps21
    go_wp2_with (first | ((with_reducible refine gate_dst (N := 1) rfl ?_); refine box_event ?hg (N := 1) ?hd (cs := #[.int .u64 a0_0, .int .u64 a0_1, .slice A0_2 l0_2.length c0_2]) (t := 40) ?hr ?_; (case hd => rfl); (case hg => rfl); (case hr => first | (go_simp; done) | (go_simp; rfl)); intro gb220 hg w6 hbox hb; have n0_ := Aside0.mk (below_step (by repeat (first | (with_reducible first | exact HB.out | apply below_alloc | apply pw_below_drewN | apply below_drew1) | exact HB.out)) hb); have n1_ := Aside0.mk (hbox); have n2_ := Aside0.mk ((by rw [hg]; exact (below_size (by repeat (first | (with_reducible first | exact HB.out | apply below_alloc | apply pw_below_drewN | apply below_drew1) | exact HB.out))) : w.heap.size ≤ gb220)); have n3_ := Aside0.mk ((by rw [hg]; exact (below_size (by repeat (first | (with_reducible first | exact HB.out | apply below_alloc | apply pw_below_drewN | apply below_drew1) | exact HB.out))) : w.heap.size ≤ gb220)); clear HB; have HB := n0_; have BK220 := n1_; have GW220 := n2_; have GE220 := n3_; clear n0_ n1_ n2_ n3_; clear hb hbox hg; have hcz7_0 : w6.cell? ⟨gb220, 0, none⟩ = some (.int .u64 a0_0) := (blk_cell BK220.out 0).trans rfl; have hcz7_1 : w6.cell? ⟨gb220, 1, none⟩ = some (.int .u64 a0_1) := (blk_cell BK220.out 1).trans rfl; have hcz7_2 : w6.cell? ⟨gb220, 2, none⟩ = some (.slice A0_2 l0_2.length c0_2) := (blk_cell BK220.out 2).trans rfl; have hfz7_0 := blk_frozen BK220.out 0; have hfz7_1 := blk_frozen BK220.out 1; have hfz7_2 := blk_frozen BK220.out 2) | ((with_reducible refine gate_callee (f := 27) rfl ?_); refine goesL_ (some 5) rfl rfl Tryd.func27 (by kernel_rfl) rfl #[.slice A0_2 l0_2.length c0_2] rfl (by (try simp only [List.map_toArray, List.map_cons, List.map_nil]); first | done | rfl | (simp only [List.length_drop, List.length_take]; rfl)) ?_; (with_reducible refine (laws_zzFits2.calls k _ _ l0_2 false _ ?side1 ?side2 A2.out).mono ?_); (case side1 => repeat (first | exact (Kd.C_below HR0_2.out HB.out) | (with_reducible refine Kd.C_alloc ?_ _) | (with_reducible refine Kd.C_drewN ?_ _) | (with_reducible refine Kd.C_drew ?_))); (case side2 => exact HC0_2.out); rintro e w' ⟨rfl, ⟨nd, rfl⟩⟩; refine ⟨_, rfl, ?_⟩))
    go_ret
    exact ⟨by first | rfl | (simp [errW_none, errW_some] <;> rfl) | (simp [*, errW_none, errW_some] <;> rfl), by repeat (first | (with_reducible first | exact HB.out | apply below_alloc | apply pw_below_drewN | apply below_drew1 | refine below_set ?_ GE220.out) | exact HB.out)⟩

/-! ### laws_logSmall: function 28 -/
def laws_logSmall.l0 : Nat → List (List Int) → List (List Int) → Int → Int → Option (Bool)
  | 0, _, _, _, _ => none
  | k + 1, x0, x5, x6, x7 => if x7 < x6 then (if 0 ≤ x7 then (if x7 < (x5.length : Int) then (if ((rd_L4 x5 x7).length : Int) > 5000 then (some false) else (laws_logSmall.l0 k x0 x5 x6 (wrap64 (x7 + 1)))) else (none)) else (none)) else (some (decide ((x0.length : Int) ≤ 300)))
def laws_logSmall.f (k : Nat) (l0 : List (List Int)) : Option (Bool) := laws_logSmall.l0 k l0 l0 (l0.length : Int) 0
theorem laws_logSmall.mono_l : ∀ k, (∀ y0 y1 y2 y3, LeO (laws_logSmall.l0 k y0 y1 y2 y3) (laws_logSmall.l0 (k + 1) y0 y1 y2 y3))
  | 0 => fun _ _ _ _ r h => by simp [laws_logSmall.l0] at h
  | k + 1 => by
    have ih0 := laws_logSmall.mono_l k
    · intro y0 y1 y2 y3
      unfold laws_logSmall.l0
      repeat' first
      | (with_reducible exact ih0 _ _ _ _)
      | (with_reducible exact LeO.refl _)
      | (with_reducible exact LeO.none _)
      | (with_reducible refine LeO.ite ?_ ?_)
      | (with_reducible refine LeO.bind ?_ (fun _ => ?_))
      | exact ih0 _ _ _ _
      | exact LeO.none _
      | refine LeO.ite ?_ ?_
      | refine LeO.bind ?_ (fun _ => ?_)
theorem laws_logSmall.mono : ∀ a0 k, LeO (laws_logSmall.f k a0) (laws_logSmall.f (k + 1) a0) := by
  intro a0 k
  have ih0 := laws_logSmall.mono_l k
  unfold laws_logSmall.f
  repeat' first
      | (with_reducible exact ih0 _ _ _ _)
      | (with_reducible exact LeO.refl _)
      | (with_reducible exact LeO.none _)
      | (with_reducible refine LeO.ite ?_ ?_)
      | (with_reducible refine LeO.bind ?_ (fun _ => ?_))
      | exact ih0 _ _ _ _
      | exact LeO.none _
      | refine LeO.ite ?_ ?_
      | refine LeO.bind ?_ (fun _ => ?_)
set_option maxHeartbeats 8000000 in
set_option maxRecDepth 100000 in
theorem laws_logSmall.calls (k : Nat) (A0 : Option Addr) (c0 : Nat) (l0 : List (List Int)) (r : Bool) (w : World) (hr0 : Kd.C (Kd.slice 5 (Kd.int .u8)) w A0 l0.length l0) (hc0 : l0.length ≤ c0) (h : laws_logSmall.f k l0 = some r) :
    Calls Tryd.prog 28 #[.slice A0 l0.length c0] w fun e w' => e = .returned (.bool r) ∧ Drawn0 w w' := by
  have HR0 := Aside0.mk hr0
  have HC0 := Aside0.mk hc0
  clear hr0 hc0
  have H : (laws_logSmall.l0 k l0 l0 (l0.length : Int) 0) = some r := h
  clear h
  have H' := Aside0.mk H
  clear H
  go_enter Tryd.func28, Tryd.ntmps28
  go_wp2
  try simp only [Act.put, List.setIfInBounds_toArray, List.set_cons_zero, List.set_cons_succ]
  go_loopg [7] k (fun kq v7 w' => ∃ (x7_1 : Int), v7 = .int .i64 x7_1 ∧ Aside0 (laws_logSmall.l0 kq l0 l0 (l0.length : Int) x7_1 = some r) ∧ Aside0 (kq ≤ k) ∧ Drawn0 w w')
  case atStart => exact ⟨(0), (by first | rfl | (simp; done) | (simp [*]; done)), H', ⟨Nat.le_refl _⟩, by repeat (first | exact Drawn0.refl _ | apply Drawn0.step)⟩
  case round =>
    clear H'
    obtain ⟨x7_1, rfl, HA, HK1, ⟨m1, rfl⟩⟩ := hrel
    cases gk with
    | zero => exact absurd HA.out (by simp [laws_logSmall.l0])
    | succ k1 =>
      have H := HA.out
      clear HA
      simp only [laws_logSmall.l0] at H
      by_cases c2 : x7_1 < (l0.length : Int)
      · rw [if_pos c2] at H
        have c2b0 : decide (x7_1 < (l0.length : Int)) = true := decide_eq_true c2
        clear c2
        by_cases c3 : 0 ≤ x7_1
        · rw [if_pos c3] at H
          have c3b0 : decide (0 ≤ x7_1) = true := decide_eq_true c3
          clear c3
          by_cases c4 : x7_1 < (l0.length : Int)
          · rw [if_pos c4] at H
            have c4b0 : decide (x7_1 < (l0.length : Int)) = true := decide_eq_true c4
            clear c4
            by_cases c5 : ((rd_L4 l0 x7_1).length : Int) > 5000
            · rw [if_pos c5] at H
              have c5b0 : decide (5000 < ((rd_L4 l0 x7_1).length : Int)) = true := decide_eq_true c5
              have c5b1 : decide (5000 < (rd_L4 l0 x7_1).length) = true := decide_eq_true (by omega)
              clear c5
              obtain rfl := Option.some.inj H
              have p222 : 0 ≤ (x7_1 : Int) := of_decide_eq_true (by first | (with_reducible assumption) | assumption)
              have q222 : x7_1 < (l0.length : Int) := of_decide_eq_true (by first | (with_reducible assumption) | assumption)
              obtain ⟨ad222, A222_0, c222_0, e222, hx222_0, hl222_0, hi222_0⟩ := at_L4 HR0.out x7_1 p222 q222
              cases e222
              have HR222_0 := Aside0.mk hi222_0
              have HC222_0 := Aside0.mk hl222_0
              clear hi222_0 hl222_0
              replace p222 := eq_true p222
              replace q222 := eq_true q222
              go_wp2
              go_ret
              exact ⟨by first | rfl | (simp; done) | (simp [*]; done), by repeat (first | exact Drawn0.refl _ | apply Drawn0.step)⟩
            · rw [if_neg c5] at H
              have c5b0 : decide (5000 < ((rd_L4 l0 x7_1).length : Int)) = false := decide_eq_false c5
              have c5b1 : decide (5000 < (rd_L4 l0 x7_1).length) = false := decide_eq_false (by omega)
              clear c5
              have H' := Aside0.mk H
              clear H
              have p222 : 0 ≤ (x7_1 : Int) := of_decide_eq_true (by first | (with_reducible assumption) | assumption)
              have q222 : x7_1 < (l0.length : Int) := of_decide_eq_true (by first | (with_reducible assumption) | assumption)
              obtain ⟨ad222, A222_0, c222_0, e222, hx222_0, hl222_0, hi222_0⟩ := at_L4 HR0.out x7_1 p222 q222
              cases e222
              have HR222_0 := Aside0.mk hi222_0
              have HC222_0 := Aside0.mk hl222_0
              clear hi222_0 hl222_0
              replace p222 := eq_true p222
              replace q222 := eq_true q222
              go_wp2
              go_roundg k1
              case measure => have := HK1.out; omega
              case rel => exact ⟨(wrap64 (x7_1 + 1)), (by first | rfl | (simp; done) | (simp [*]; done)), H', ⟨by have := HK1.out; omega⟩, by repeat (first | exact Drawn0.refl _ | apply Drawn0.step)⟩
          · rw [if_neg c4] at H
            exact absurd H (by simp)
        · rw [if_neg c3] at H
          exact absurd H (by simp)
      · rw [if_neg c2] at H
        have c2b0 : decide (x7_1 < (l0.length : Int)) = false := decide_eq_false c2
        clear c2
        obtain rfl := Option.some.inj H
        go_wp2
        go_ret
        exact ⟨by first | rfl | (simp; done) | (simp [*]; done), by repeat (first | exact Drawn0.refl _ | apply Drawn0.step)⟩

end Go.Proofs.YtijldedhcjkhiaaDoor.X
