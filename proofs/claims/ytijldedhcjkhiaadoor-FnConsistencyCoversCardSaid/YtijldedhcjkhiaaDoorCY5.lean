import Derived.Test.YtijldedhcjkhiaaDoorCY0
import Derived.Test.YtijldedhcjkhiaaDoorCY4
namespace Go.Proofs.YtijldedhcjkhiaaDoor.Y
open Go.RowKit Go.Proofs.YtijldedhcjkhiaaDoorW.PrintWords Go.Proofs.YtijldedhcjkhiaaDoorW.PrintLast Go.Proofs.YtijldedhcjkhiaaDoorW.PrintMore
attribute [local go_sem] max2_int min2_int max_two min_two max_three min_three max_four min_four   -- for this text's walks alone
set_option linter.unusedVariables false
set_option linter.unusedSimpArgs false
mutual
def laws_FnConsistencyCovers.j0 : Nat → Int → Int → Bool → Option (Bool)
  | 0, _, _, _ => none
  | k + 1, x0, x1, x21 => if x21 = true then (some true) else ((impl_Consistency.f k x0 x1).bind fun bt270 => (if (Go.bits .and .u64 x0 (IntKind.u64.wrap (x0 - 1))) = 0 then (laws_FnConsistencyCovers.j1 k x0 x1 bt270.2.2.2.2.2 x0 bt270.1 bt270.2.1 bt270.2.2.1 bt270.2.2.2.1 bt270.2.2.2.2.1) else (laws_FnConsistencyCovers.j1 k x0 x1 bt270.2.2.2.2.2 0 bt270.1 bt270.2.1 bt270.2.2.1 bt270.2.2.2.1 bt270.2.2.2.2.1)))
def laws_FnConsistencyCovers.j1 : Nat → Int → Int → Bool → Int → List (S70) → Int → Int → Int → Int → Option (Bool)
  | 0, _, _, _, _, _, _, _, _, _ => none
  | k + 1, x0, x1, x6, x7, x279000, x279001, x279002, x279003, x279004 => laws_FnConsistencyCovers.l0 k x0 x1 x6 x7 x7 x279000 (x279000.length : Int) 0 x279000 x279001 x279002 x279003 x279004
def laws_FnConsistencyCovers.l0 : Nat → Int → Int → Bool → Int → Int → List (S70) → Int → Int → List (S70) → Int → Int → Int → Int → Option (Bool)
  | 0, _, _, _, _, _, _, _, _, _, _, _, _, _ => none
  | k + 1, x0, x1, x6, x7, x8, x36, x37, x38, x279000, x279001, x279002, x279003, x279004 => if x38 < x37 then (if 0 ≤ x38 then (if x38 < (x36.length : Int) then ((spec_Leaves.f ((rd_T70 x36 x38).f0) ((rd_T70 x36 x38).f1)).bind fun bt281 => (if ((rd_T70 x36 x38).f0) ≥ 64 then (laws_FnConsistencyCovers.j3 k x0 x1 x6 x7 x8 x38 x36 x37 x38 true x279000 x279001 x279002 x279003 x279004 bt281.1 bt281.2) else (if bt281.2 > x1 then (laws_FnConsistencyCovers.j3 k x0 x1 x6 x7 x8 x38 x36 x37 x38 true x279000 x279001 x279002 x279003 x279004 bt281.1 bt281.2) else (if bt281.1 ≥ bt281.2 then (laws_FnConsistencyCovers.j3 k x0 x1 x6 x7 x8 x38 x36 x37 x38 true x279000 x279001 x279002 x279003 x279004 bt281.1 bt281.2) else (if bt281.1 < x8 then (laws_FnConsistencyCovers.j3 k x0 x1 x6 x7 x8 x38 x36 x37 x38 true x279000 x279001 x279002 x279003 x279004 bt281.1 bt281.2) else (if bt281.1 < x0 then (laws_FnConsistencyCovers.j3 k x0 x1 x6 x7 x8 x38 x36 x37 x38 (decide (bt281.2 > x0)) x279000 x279001 x279002 x279003 x279004 bt281.1 bt281.2) else (laws_FnConsistencyCovers.j3 k x0 x1 x6 x7 x8 x38 x36 x37 x38 false x279000 x279001 x279002 x279003 x279004 bt281.1 bt281.2))))))) else (none)) else (none)) else (if x6 = true then (some (x7 == x1)) else (some false))
def laws_FnConsistencyCovers.j3 : Nat → Int → Int → Bool → Int → Int → Int → List (S70) → Int → Int → Bool → List (S70) → Int → Int → Int → Int → Int → Int → Option (Bool)
  | 0, _, _, _, _, _, _, _, _, _, _, _, _, _, _, _, _, _ => none
  | k + 1, x0, x1, x6, x7, x8, x9, x36, x37, x38, x78, x279000, x279001, x279002, x279003, x279004, x284000, x284001 => if x78 = true then (some false) else (if 0 ≤ x9 then (if x9 ≤ (x279000.length : Int) then ((some (x279000.take (x9 : Int).toNat : List (S70))).bind fun y284 => (laws_FnConsistencyCovers.l1 k x0 x1 x6 x7 x8 x36 x37 x38 y284 (y284.length : Int) 0 x279000 x279001 x279002 x279003 x279004 x284000 x284001)) else (none)) else (none))
def laws_FnConsistencyCovers.l1 : Nat → Int → Int → Bool → Int → Int → List (S70) → Int → Int → List (S70) → Int → Int → List (S70) → Int → Int → Int → Int → Int → Int → Option (Bool)
  | 0, _, _, _, _, _, _, _, _, _, _, _, _, _, _, _, _, _, _ => none
  | k + 1, x0, x1, x6, x7, x8, x36, x37, x38, x82, x83, x84, x279000, x279001, x279002, x279003, x279004, x284000, x284001 => if x84 < x83 then (if 0 ≤ x84 then (if x84 < (x82.length : Int) then ((spec_Leaves.f ((rd_T70 x82 x84).f0) ((rd_T70 x82 x84).f1)).bind fun bt290 => (if x284000 < bt290.2 then (if bt290.1 < x284001 then (some false) else (laws_FnConsistencyCovers.l1 k x0 x1 x6 x7 x8 x36 x37 x38 x82 x83 (wrap64 (x84 + 1)) x279000 x279001 x279002 x279003 x279004 x284000 x284001)) else (laws_FnConsistencyCovers.l1 k x0 x1 x6 x7 x8 x36 x37 x38 x82 x83 (wrap64 (x84 + 1)) x279000 x279001 x279002 x279003 x279004 x284000 x284001))) else (none)) else (none)) else (laws_FnConsistencyCovers.l0 k x0 x1 x6 (IntKind.u64.wrap (x7 + (IntKind.u64.wrap (x284001 - x284000)))) x8 x36 x37 (wrap64 (x38 + 1)) x279000 x279001 x279002 x279003 x279004)
end
def laws_FnConsistencyCovers.f (k : Nat) (a0 : Int) (a1 : Int) : Option (Bool) := if a0 = 0 then (laws_FnConsistencyCovers.j0 k a0 a1 true) else (laws_FnConsistencyCovers.j0 k a0 a1 (decide (a0 ≥ a1)))
theorem laws_FnConsistencyCovers.mono_l : ∀ k, (∀ y0 y1 y2, LeO (laws_FnConsistencyCovers.j0 k y0 y1 y2) (laws_FnConsistencyCovers.j0 (k + 1) y0 y1 y2)) ∧ (∀ y0 y1 y2 y3 y4 y5 y6 y7 y8, LeO (laws_FnConsistencyCovers.j1 k y0 y1 y2 y3 y4 y5 y6 y7 y8) (laws_FnConsistencyCovers.j1 (k + 1) y0 y1 y2 y3 y4 y5 y6 y7 y8)) ∧ (∀ y0 y1 y2 y3 y4 y5 y6 y7 y8 y9 y10 y11 y12, LeO (laws_FnConsistencyCovers.l0 k y0 y1 y2 y3 y4 y5 y6 y7 y8 y9 y10 y11 y12) (laws_FnConsistencyCovers.l0 (k + 1) y0 y1 y2 y3 y4 y5 y6 y7 y8 y9 y10 y11 y12)) ∧ (∀ y0 y1 y2 y3 y4 y5 y6 y7 y8 y9 y10 y11 y12 y13 y14 y15 y16, LeO (laws_FnConsistencyCovers.j3 k y0 y1 y2 y3 y4 y5 y6 y7 y8 y9 y10 y11 y12 y13 y14 y15 y16) (laws_FnConsistencyCovers.j3 (k + 1) y0 y1 y2 y3 y4 y5 y6 y7 y8 y9 y10 y11 y12 y13 y14 y15 y16)) ∧ (∀ y0 y1 y2 y3 y4 y5 y6 y7 y8 y9 y10 y11 y12 y13 y14 y15 y16 y17, LeO (laws_FnConsistencyCovers.l1 k y0 y1 y2 y3 y4 y5 y6 y7 y8 y9 y10 y11 y12 y13 y14 y15 y16 y17) (laws_FnConsistencyCovers.l1 (k + 1) y0 y1 y2 y3 y4 y5 y6 y7 y8 y9 y10 y11 y12 y13 y14 y15 y16 y17))
  | 0 => ⟨fun _ _ _ r h => by simp [laws_FnConsistencyCovers.j0] at h, fun _ _ _ _ _ _ _ _ _ r h => by simp [laws_FnConsistencyCovers.j1] at h, fun _ _ _ _ _ _ _ _ _ _ _ _ _ r h => by simp [laws_FnConsistencyCovers.l0] at h, fun _ _ _ _ _ _ _ _ _ _ _ _ _ _ _ _ _ r h => by simp [laws_FnConsistencyCovers.j3] at h, fun _ _ _ _ _ _ _ _ _ _ _ _ _ _ _ _ _ _ r h => by simp [laws_FnConsistencyCovers.l1] at h⟩
  | k + 1 => by
    obtain ⟨ih0, ih1, ih2, ih3, ih4⟩ := laws_FnConsistencyCovers.mono_l k
    refine ⟨?_, ?_, ?_, ?_, ?_⟩
    · intro y0 y1 y2
      unfold laws_FnConsistencyCovers.j0
      repeat' first
      | (with_reducible exact ih0 _ _ _)
      | (with_reducible exact ih1 _ _ _ _ _ _ _ _ _)
      | (with_reducible exact ih2 _ _ _ _ _ _ _ _ _ _ _ _ _)
      | (with_reducible exact ih3 _ _ _ _ _ _ _ _ _ _ _ _ _ _ _ _ _)
      | (with_reducible exact ih4 _ _ _ _ _ _ _ _ _ _ _ _ _ _ _ _ _ _)
      | (with_reducible exact impl_Consistency.mono _ _ _)
      | (with_reducible exact LeO.refl _)
      | (with_reducible exact LeO.none _)
      | (with_reducible refine LeO.ite ?_ ?_)
      | (with_reducible refine LeO.bind ?_ (fun _ => ?_))
      | exact ih0 _ _ _
      | exact ih1 _ _ _ _ _ _ _ _ _
      | exact ih2 _ _ _ _ _ _ _ _ _ _ _ _ _
      | exact ih3 _ _ _ _ _ _ _ _ _ _ _ _ _ _ _ _ _
      | exact ih4 _ _ _ _ _ _ _ _ _ _ _ _ _ _ _ _ _ _
      | exact impl_Consistency.mono _ _ _
      | exact LeO.none _
      | refine LeO.ite ?_ ?_
      | refine LeO.bind ?_ (fun _ => ?_)
    · intro y0 y1 y2 y3 y4 y5 y6 y7 y8
      unfold laws_FnConsistencyCovers.j1
      repeat' first
      | (with_reducible exact ih0 _ _ _)
      | (with_reducible exact ih1 _ _ _ _ _ _ _ _ _)
      | (with_reducible exact ih2 _ _ _ _ _ _ _ _ _ _ _ _ _)
      | (with_reducible exact ih3 _ _ _ _ _ _ _ _ _ _ _ _ _ _ _ _ _)
      | (with_reducible exact ih4 _ _ _ _ _ _ _ _ _ _ _ _ _ _ _ _ _ _)
      | (with_reducible exact impl_Consistency.mono _ _ _)
      | (with_reducible exact LeO.refl _)
      | (with_reducible exact LeO.none _)
      | (with_reducible refine LeO.ite ?_ ?_)
      | (with_reducible refine LeO.bind ?_ (fun _ => ?_))
      | exact ih0 _ _ _
      | exact ih1 _ _ _ _ _ _ _ _ _
      | exact ih2 _ _ _ _ _ _ _ _ _ _ _ _ _
      | exact ih3 _ _ _ _ _ _ _ _ _ _ _ _ _ _ _ _ _
      | exact ih4 _ _ _ _ _ _ _ _ _ _ _ _ _ _ _ _ _ _
      | exact impl_Consistency.mono _ _ _
      | exact LeO.none _
      | refine LeO.ite ?_ ?_
      | refine LeO.bind ?_ (fun _ => ?_)
    · intro y0 y1 y2 y3 y4 y5 y6 y7 y8 y9 y10 y11 y12
      unfold laws_FnConsistencyCovers.l0
      repeat' first
      | (with_reducible exact ih0 _ _ _)
      | (with_reducible exact ih1 _ _ _ _ _ _ _ _ _)
      | (with_reducible exact ih2 _ _ _ _ _ _ _ _ _ _ _ _ _)
      | (with_reducible exact ih3 _ _ _ _ _ _ _ _ _ _ _ _ _ _ _ _ _)
      | (with_reducible exact ih4 _ _ _ _ _ _ _ _ _ _ _ _ _ _ _ _ _ _)
      | (with_reducible exact impl_Consistency.mono _ _ _)
      | (with_reducible exact LeO.refl _)
      | (with_reducible exact LeO.none _)
      | (with_reducible refine LeO.ite ?_ ?_)
      | (with_reducible refine LeO.bind ?_ (fun _ => ?_))
      | exact ih0 _ _ _
      | exact ih1 _ _ _ _ _ _ _ _ _
      | exact ih2 _ _ _ _ _ _ _ _ _ _ _ _ _
      | exact ih3 _ _ _ _ _ _ _ _ _ _ _ _ _ _ _ _ _
      | exact ih4 _ _ _ _ _ _ _ _ _ _ _ _ _ _ _ _ _ _
      | exact impl_Consistency.mono _ _ _
      | exact LeO.none _
      | refine LeO.ite ?_ ?_
      | refine LeO.bind ?_ (fun _ => ?_)
    · intro y0 y1 y2 y3 y4 y5 y6 y7 y8 y9 y10 y11 y12 y13 y14 y15 y16
      unfold laws_FnConsistencyCovers.j3
      repeat' first
      | (with_reducible exact ih0 _ _ _)
      | (with_reducible exact ih1 _ _ _ _ _ _ _ _ _)
      | (with_reducible exact ih2 _ _ _ _ _ _ _ _ _ _ _ _ _)
      | (with_reducible exact ih3 _ _ _ _ _ _ _ _ _ _ _ _ _ _ _ _ _)
      | (with_reducible exact ih4 _ _ _ _ _ _ _ _ _ _ _ _ _ _ _ _ _ _)
      | (with_reducible exact impl_Consistency.mono _ _ _)
      | (with_reducible exact LeO.refl _)
      | (with_reducible exact LeO.none _)
      | (with_reducible refine LeO.ite ?_ ?_)
      | (with_reducible refine LeO.bind ?_ (fun _ => ?_))
      | exact ih0 _ _ _
      | exact ih1 _ _ _ _ _ _ _ _ _
      | exact ih2 _ _ _ _ _ _ _ _ _ _ _ _ _
      | exact ih3 _ _ _ _ _ _ _ _ _ _ _ _ _ _ _ _ _
      | exact ih4 _ _ _ _ _ _ _ _ _ _ _ _ _ _ _ _ _ _
      | exact impl_Consistency.mono _ _ _
      | exact LeO.none _
      | refine LeO.ite ?_ ?_
      | refine LeO.bind ?_ (fun _ => ?_)
    · intro y0 y1 y2 y3 y4 y5 y6 y7 y8 y9 y10 y11 y12 y13 y14 y15 y16 y17
      unfold laws_FnConsistencyCovers.l1
      repeat' first
      | (with_reducible exact ih0 _ _ _)
      | (with_reducible exact ih1 _ _ _ _ _ _ _ _ _)
      | (with_reducible exact ih2 _ _ _ _ _ _ _ _ _ _ _ _ _)
      | (with_reducible exact ih3 _ _ _ _ _ _ _ _ _ _ _ _ _ _ _ _ _)
      | (with_reducible exact ih4 _ _ _ _ _ _ _ _ _ _ _ _ _ _ _ _ _ _)
      | (with_reducible exact impl_Consistency.mono _ _ _)
      | (with_reducible exact LeO.refl _)
      | (with_reducible exact LeO.none _)
      | (with_reducible refine LeO.ite ?_ ?_)
      | (with_reducible refine LeO.bind ?_ (fun _ => ?_))
      | exact ih0 _ _ _
      | exact ih1 _ _ _ _ _ _ _ _ _
      | exact ih2 _ _ _ _ _ _ _ _ _ _ _ _ _
      | exact ih3 _ _ _ _ _ _ _ _ _ _ _ _ _ _ _ _ _
      | exact ih4 _ _ _ _ _ _ _ _ _ _ _ _ _ _ _ _ _ _
      | exact impl_Consistency.mono _ _ _
      | exact LeO.none _
      | refine LeO.ite ?_ ?_
      | refine LeO.bind ?_ (fun _ => ?_)
theorem laws_FnConsistencyCovers.mono : ∀ a0 a1 k, LeO (laws_FnConsistencyCovers.f k a0 a1) (laws_FnConsistencyCovers.f (k + 1) a0 a1) := by
  intro a0 a1 k
  obtain ⟨ih0, ih1, ih2, ih3, ih4⟩ := laws_FnConsistencyCovers.mono_l k
  unfold laws_FnConsistencyCovers.f
  repeat' first
      | (with_reducible exact ih0 _ _ _)
      | (with_reducible exact ih1 _ _ _ _ _ _ _ _ _)
      | (with_reducible exact ih2 _ _ _ _ _ _ _ _ _ _ _ _ _)
      | (with_reducible exact ih3 _ _ _ _ _ _ _ _ _ _ _ _ _ _ _ _ _)
      | (with_reducible exact ih4 _ _ _ _ _ _ _ _ _ _ _ _ _ _ _ _ _ _)
      | (with_reducible exact impl_Consistency.mono _ _ _)
      | (with_reducible exact LeO.refl _)
      | (with_reducible exact LeO.none _)
      | (with_reducible refine LeO.ite ?_ ?_)
      | (with_reducible refine LeO.bind ?_ (fun _ => ?_))
      | exact ih0 _ _ _
      | exact ih1 _ _ _ _ _ _ _ _ _
      | exact ih2 _ _ _ _ _ _ _ _ _ _ _ _ _
      | exact ih3 _ _ _ _ _ _ _ _ _ _ _ _ _ _ _ _ _
      | exact ih4 _ _ _ _ _ _ _ _ _ _ _ _ _ _ _ _ _ _
      | exact impl_Consistency.mono _ _ _
      | exact LeO.none _
      | refine LeO.ite ?_ ?_
      | refine LeO.bind ?_ (fun _ => ?_)
set_option maxHeartbeats 8000000 in
set_option maxRecDepth 100000 in
theorem laws_FnConsistencyCovers.calls (k : Nat) (a0 : Int) (a1 : Int) (r : Bool) (w : World) (hGT : GlobT w) (h : laws_FnConsistencyCovers.f k a0 a1 = some r) :
    Calls Tryd.prog 8 #[.int .u64 a0, .int .u64 a1] w fun e w' => e = .returned (.bool r) ∧ Below w.heap.size w w' := by
  have hu72 := Tryd.underlying72
  have hu70 := Tryd.underlying70
  have hu34 := Tryd.underlying34
  have HB := Aside0.mk (Below.refl w.heap.size w)
  have H : (if a0 = 0 then (laws_FnConsistencyCovers.j0 k a0 a1 true) else (laws_FnConsistencyCovers.j0 k a0 a1 (decide (a0 ≥ a1)))) = some r := h
  clear h
  have HC3 := Aside0.mk H
  clear H
  go_enter Tryd.func8, Tryd.ntmps8
  go_upto_region 1 with (fail)
  go_cut [21] (fun v21 wc => ∃ (kq : Nat) (x21_2 : Bool), v21 = .bool x21_2 ∧ Aside0 (laws_FnConsistencyCovers.j0 kq a0 a1 x21_2 = some r) ∧ Aside0 (kq ≤ k) ∧ Aside0 (Below w.heap.size w wc))
  case first =>
    have H := HC3.out
    clear HC3
    by_cases c4 : a0 = 0
    · rw [if_pos c4] at H
      have c4b0 : (a0 == 0) = true := beq_iff_eq.mpr c4
      have c4b1 : (a0 != 0) = false := bne_eq_false_iff_eq.mpr c4
      clear c4
      (first | rw [c4b0] | (simp only [i64_w, i32_w]; rw [c4b0]) | skip)
      have H' := Aside0.mk H
      clear H
      go_wp2
      go_meet
      case rel => exact ⟨_, (true), (by first | rfl | (simp; done) | (simp [*]; done)), H', ⟨by first | omega | exact Nat.le_refl _⟩, ⟨by repeat (first | (with_reducible first | exact HB.out | apply below_alloc | apply pw_below_drewN | apply below_drew1) | exact HB.out)⟩⟩
    · rw [if_neg c4] at H
      have c4b0 : (a0 == 0) = false := beq_eq_false_iff_ne.mpr c4
      have c4b1 : (a0 != 0) = true := bne_iff_ne.mpr c4
      (first | rw [c4b0] | (simp only [i64_w, i32_w]; rw [c4b0]) | skip)
      have H' := Aside0.mk H
      clear H
      go_wp2
      go_meet
      case rel => exact ⟨_, (decide (a0 ≥ a1)), (by first | rfl | (simp; done) | (simp [*]; done)), H', ⟨by first | omega | exact Nat.le_refl _⟩, ⟨by repeat (first | (with_reducible first | exact HB.out | apply below_alloc | apply pw_below_drewN | apply below_drew1) | exact HB.out)⟩⟩
  case rest =>
    clear HC3
    try clear p2
    try clear c4
    try clear c4b0
    try clear c4b1
    obtain ⟨kq, x21_2, rfl, HA, HJ2, HB⟩ := hcut
    cases kq with
    | zero => exact absurd HA.out (by simp [laws_FnConsistencyCovers.j0])
    | succ kj2 =>
      have H := HA.out
      clear HA
      simp only [laws_FnConsistencyCovers.j0] at H
      by_cases c5 : x21_2 = true
      · subst c5
        have H1 : (some true) = some r := by rw [if_pos rfl] at H; exact H
        clear H
        have H := H1
        clear H1
        obtain rfl := Option.some.inj H
        go_wp2
        go_ret
        exact ⟨by first | rfl | (simp [errW_none, errW_some] <;> rfl) | (simp [*, errW_none, errW_some] <;> rfl), by repeat (first | (with_reducible first | exact HB.out | apply below_alloc | apply pw_below_drewN | apply below_drew1) | exact HB.out)⟩
      · replace c5 := Bool.eq_false_iff.mpr c5
        subst c5
        have H1 : ((impl_Consistency.f kj2 a0 a1).bind fun bt270 => (if (Go.bits .and .u64 a0 (IntKind.u64.wrap (a0 - 1))) = 0 then (laws_FnConsistencyCovers.j1 kj2 a0 a1 bt270.2.2.2.2.2 a0 bt270.1 bt270.2.1 bt270.2.2.1 bt270.2.2.2.1 bt270.2.2.2.2.1) else (laws_FnConsistencyCovers.j1 kj2 a0 a1 bt270.2.2.2.2.2 0 bt270.1 bt270.2.1 bt270.2.2.1 bt270.2.2.2.1 bt270.2.2.2.2.1))) = some r := by rw [if_neg (show ¬ (false = true) by decide)] at H; exact H
        clear H
        have H := H1
        clear H1
        replace H := Option.bind_eq_some_iff.mp H
        obtain ⟨⟨t270, t273, t274, t275, t276, t277⟩, A60, H⟩ := H
        replace H : (if (Go.bits .and .u64 a0 (IntKind.u64.wrap (a0 - 1))) = 0 then (laws_FnConsistencyCovers.j1 kj2 a0 a1 t277 a0 t270 t273 t274 t275 t276) else (laws_FnConsistencyCovers.j1 kj2 a0 a1 t277 0 t270 t273 t274 t275 t276)) = some r := H
        have A6 := Aside0.mk A60
        clear A60
        have HC7 := Aside0.mk H
        clear H
        go_upto_if 32 with (first | ((with_reducible refine gate_callee (f := 40) rfl ?_); refine goesL_ (some 25) rfl rfl Tryd.func40 (by kernel_rfl) rfl #[.int .u64 a0, .int .u64 a1] rfl (by (try simp only [List.map_toArray, List.map_cons, List.map_nil]); first | done | rfl | (simp only [List.length_drop, List.length_take]; rfl)) ?_; (with_reducible refine (impl_Consistency.calls kj2 a0 a1 t270 t273 t274 t275 t276 t277 _ ?side1 A6.out).mono ?_); (case side1 => exact GlobT.below hGT (by repeat (first | (with_reducible first | exact HB.out | apply below_alloc | apply pw_below_drewN | apply below_drew1) | exact HB.out))); rintro e w8 ⟨v271, rfl, ho0, hb⟩; refine ⟨_, rfl, ?_⟩; have n0_ := Aside0.mk (Kd.R_lower ho0 (below_size (by repeat (first | (with_reducible first | exact HB.out | apply below_alloc | apply pw_below_drewN | apply below_drew1) | exact HB.out)))); have n1_ := Aside0.mk (below_step (by repeat (first | (with_reducible first | exact HB.out | apply below_alloc | apply pw_below_drewN | apply below_drew1) | exact HB.out)) hb); clear HB; have HO272 := n0_; have HB := n1_; clear n0_ n1_; (try clear hb); (try clear hb2); (try clear hk); (try clear hi); (try clear ho0)) | ((with_reducible refine gate_dst (N := 5) rfl ?_); refine box_event ?hg (N := 5) ?hd (cs := #[.slice none 0 0, .int .u64 0, .int .u64 0, .int .i64 0, .int .i64 0]) (t := 72) ?hr ?_; (case hd => rfl); (case hg => rfl); (case hr => first | (go_simp; done) | (go_simp; rfl)); intro gb278 hg w9 hbox hb; have n0_ := Aside0.mk (Kd.R_below (by (with_reducible repeat (first | apply Kd.R_alloc | apply Kd.R_drewN | apply Kd.R_drew)); exact HO272.out) hb); have n1_ := Aside0.mk (below_step (by repeat (first | (with_reducible first | exact HB.out | apply below_alloc | apply pw_below_drewN | apply below_drew1) | exact HB.out)) hb); have n2_ := Aside0.mk (hbox); have n3_ := Aside0.mk ((by rw [hg]; exact (below_size (by repeat (first | (with_reducible first | exact HB.out | apply below_alloc | apply pw_below_drewN | apply below_drew1) | exact HB.out))) : w.heap.size ≤ gb278)); have n4_ := Aside0.mk ((by rw [hg]; exact (below_size (by repeat (first | (with_reducible first | exact HB.out | apply below_alloc | apply pw_below_drewN | apply below_drew1) | exact HB.out))) : w.heap.size ≤ gb278)); clear HO272; clear HB; have HO272 := n0_; have HB := n1_; have BK278 := n2_; have GW278 := n3_; have GE278 := n4_; clear n0_ n1_ n2_ n3_ n4_; clear hb hbox hg; obtain ⟨Ao10, co10, eo10⟩ := Kd.R_slice HO272.out; subst eo10; have hcz11_0 : w9.cell? ⟨gb278, 0, none⟩ = some (.slice none 0 0) := (blk_cell BK278.out 0).trans rfl; have hcz11_1 : w9.cell? ⟨gb278, 1, none⟩ = some (.int .u64 0) := (blk_cell BK278.out 1).trans rfl; have hcz11_2 : w9.cell? ⟨gb278, 2, none⟩ = some (.int .u64 0) := (blk_cell BK278.out 2).trans rfl; have hcz11_3 : w9.cell? ⟨gb278, 3, none⟩ = some (.int .i64 0) := (blk_cell BK278.out 3).trans rfl; have hcz11_4 : w9.cell? ⟨gb278, 4, none⟩ = some (.int .i64 0) := (blk_cell BK278.out 4).trans rfl; have hfz11_0 := blk_frozen BK278.out 0; have hfz11_1 := blk_frozen BK278.out 1; have hfz11_2 := blk_frozen BK278.out 2; have hfz11_3 := blk_frozen BK278.out 3; have hfz11_4 := blk_frozen BK278.out 4))
        (try simp only [Act.put, List.setIfInBounds_toArray, List.set_cons_zero, List.set_cons_succ])
        go_cut [7] (fun v7 wc => ∃ (kq : Nat) (x7_6 : Int), v7 = .int .u64 x7_6 ∧ Aside0 (laws_FnConsistencyCovers.j1 kq a0 a1 t277 x7_6 t270 t273 t274 t275 t276 = some r) ∧ Aside0 (kq ≤ kj2) ∧ Aside0 (Kd.R k70 70 wc w.heap.size (fun _ => True) (.slice Ao10 t270.length co10) t270) ∧ Aside0 (wc.heap[gb278]? = some (.cells #[(.slice Ao10 t270.length co10), .int .u64 t273, .int .u64 t274, .int .i64 t275, .int .i64 t276] 72 (0, 0))) ∧ Aside0 (Below w.heap.size w wc))
        case first =>
          have H := HC7.out
          clear HC7
          by_cases c12 : (Go.bits .and .u64 a0 (IntKind.u64.wrap (a0 - 1))) = 0
          · rw [if_pos c12] at H
            have c12b0 : ((Go.bits .and .u64 a0 (IntKind.u64.wrap (a0 - 1))) == 0) = true := beq_iff_eq.mpr c12
            have c12b1 : ((Go.bits .and .u64 a0 (IntKind.u64.wrap (a0 - 1))) != 0) = false := bne_eq_false_iff_eq.mpr c12
            clear c12
            (first | rw [c12b0] | (simp only [i64_w, i32_w]; rw [c12b0]) | skip)
            have H' := Aside0.mk H
            clear H
            go_wp2
            go_meet
            case rel => exact ⟨_, (a0), (by first | rfl | (simp; done) | (simp [*]; done)), H', ⟨by have := HJ2.out; first | omega | exact Nat.le_refl _⟩, ⟨by (with_reducible repeat (first | apply Kd.R_alloc | apply Kd.R_drewN | apply Kd.R_drew)); exact Kd.R_mono (Kd.R_far (p := ⟨gb278, 4, none⟩) (Kd.R_far (p := ⟨gb278, 3, none⟩) (Kd.R_far (p := ⟨gb278, 2, none⟩) (Kd.R_far (p := ⟨gb278, 1, none⟩) (Kd.R_far (p := ⟨gb278, 0, none⟩) (Kd.R_types HO272.out BK278.out (by decide)) (fun _ hk => hk.2) (.slice Ao10 t270.length co10)) (fun _ hk => hk.2) (.int .u64 t273)) (fun _ hk => hk.2) (.int .u64 t274)) (fun _ hk => hk.2) (.int .i64 t275)) (fun _ hk => hk.2) (.int .i64 t276)) (fun _ hk => trivial)⟩, ⟨by (with_reducible repeat (first | refine blk_drewN ?_ _ | refine blk_drew ?_ | refine blk_alloc ?_ _)); refine blk_put (cs := #[.slice Ao10 t270.length co10, .int .u64 t273, .int .u64 t274, .int .i64 t275, .int .i64 0]) ?_ 4 _ rfl; (with_reducible repeat (first | refine blk_drewN ?_ _ | refine blk_drew ?_ | refine blk_alloc ?_ _)); refine blk_put (cs := #[.slice Ao10 t270.length co10, .int .u64 t273, .int .u64 t274, .int .i64 0, .int .i64 0]) ?_ 3 _ rfl; (with_reducible repeat (first | refine blk_drewN ?_ _ | refine blk_drew ?_ | refine blk_alloc ?_ _)); refine blk_put (cs := #[.slice Ao10 t270.length co10, .int .u64 t273, .int .u64 0, .int .i64 0, .int .i64 0]) ?_ 2 _ rfl; (with_reducible repeat (first | refine blk_drewN ?_ _ | refine blk_drew ?_ | refine blk_alloc ?_ _)); refine blk_put (cs := #[.slice Ao10 t270.length co10, .int .u64 0, .int .u64 0, .int .i64 0, .int .i64 0]) ?_ 1 _ rfl; (with_reducible repeat (first | refine blk_drewN ?_ _ | refine blk_drew ?_ | refine blk_alloc ?_ _)); refine blk_put (cs := #[.slice none 0 0, .int .u64 0, .int .u64 0, .int .i64 0, .int .i64 0]) ?_ 0 _ rfl; (with_reducible repeat (first | refine blk_drewN ?_ _ | refine blk_drew ?_ | refine blk_alloc ?_ _)); exact BK278.out⟩, ⟨by repeat (first | (with_reducible first | exact HB.out | apply below_alloc | apply pw_below_drewN | apply below_drew1 | refine below_set ?_ GE278.out) | exact HB.out)⟩⟩
          · rw [if_neg c12] at H
            have c12b0 : ((Go.bits .and .u64 a0 (IntKind.u64.wrap (a0 - 1))) == 0) = false := beq_eq_false_iff_ne.mpr c12
            have c12b1 : ((Go.bits .and .u64 a0 (IntKind.u64.wrap (a0 - 1))) != 0) = true := bne_iff_ne.mpr c12
            (first | rw [c12b0] | (simp only [i64_w, i32_w]; rw [c12b0]) | skip)
            have H' := Aside0.mk H
            clear H
            go_wp2
            go_meet
            case rel => exact ⟨_, (0), (by first | rfl | (simp; done) | (simp [*]; done)), H', ⟨by have := HJ2.out; first | omega | exact Nat.le_refl _⟩, ⟨by (with_reducible repeat (first | apply Kd.R_alloc | apply Kd.R_drewN | apply Kd.R_drew)); exact Kd.R_mono (Kd.R_far (p := ⟨gb278, 4, none⟩) (Kd.R_far (p := ⟨gb278, 3, none⟩) (Kd.R_far (p := ⟨gb278, 2, none⟩) (Kd.R_far (p := ⟨gb278, 1, none⟩) (Kd.R_far (p := ⟨gb278, 0, none⟩) (Kd.R_types HO272.out BK278.out (by decide)) (fun _ hk => hk.2) (.slice Ao10 t270.length co10)) (fun _ hk => hk.2) (.int .u64 t273)) (fun _ hk => hk.2) (.int .u64 t274)) (fun _ hk => hk.2) (.int .i64 t275)) (fun _ hk => hk.2) (.int .i64 t276)) (fun _ hk => trivial)⟩, ⟨by (with_reducible repeat (first | refine blk_drewN ?_ _ | refine blk_drew ?_ | refine blk_alloc ?_ _)); refine blk_put (cs := #[.slice Ao10 t270.length co10, .int .u64 t273, .int .u64 t274, .int .i64 t275, .int .i64 0]) ?_ 4 _ rfl; (with_reducible repeat (first | refine blk_drewN ?_ _ | refine blk_drew ?_ | refine blk_alloc ?_ _)); refine blk_put (cs := #[.slice Ao10 t270.length co10, .int .u64 t273, .int .u64 t274, .int .i64 0, .int .i64 0]) ?_ 3 _ rfl; (with_reducible repeat (first | refine blk_drewN ?_ _ | refine blk_drew ?_ | refine blk_alloc ?_ _)); refine blk_put (cs := #[.slice Ao10 t270.length co10, .int .u64 t273, .int .u64 0, .int .i64 0, .int .i64 0]) ?_ 2 _ rfl; (with_reducible repeat (first | refine blk_drewN ?_ _ | refine blk_drew ?_ | refine blk_alloc ?_ _)); refine blk_put (cs := #[.slice Ao10 t270.length co10, .int .u64 0, .int .u64 0, .int .i64 0, .int .i64 0]) ?_ 1 _ rfl; (with_reducible repeat (first | refine blk_drewN ?_ _ | refine blk_drew ?_ | refine blk_alloc ?_ _)); refine blk_put (cs := #[.slice none 0 0, .int .u64 0, .int .u64 0, .int .i64 0, .int .i64 0]) ?_ 0 _ rfl; (with_reducible repeat (first | refine blk_drewN ?_ _ | refine blk_drew ?_ | refine blk_alloc ?_ _)); exact BK278.out⟩, ⟨by repeat (first | (with_reducible first | exact HB.out | apply below_alloc | apply pw_below_drewN | apply below_drew1 | refine below_set ?_ GE278.out) | exact HB.out)⟩⟩
        case rest =>
          clear HC7
          try clear c1
          try clear p2
          try clear c4
          try clear c4b0
          try clear c4b1
          try clear c5
          try clear c8
          try clear c12
          try clear c12b0
          try clear c12b1
          try clear hcz11_0
          try clear hcz11_1
          try clear hcz11_2
          try clear hcz11_3
          try clear hcz11_4
          try clear hfz11_0
          try clear hfz11_1
          try clear hfz11_2
          try clear hfz11_3
          try clear hfz11_4
          try clear p2
          obtain ⟨kq, x7_6, rfl, HA, HJ6, HO_279000, BK278, HB⟩ := hcut
          cases kq with
          | zero => exact absurd HA.out (by simp [laws_FnConsistencyCovers.j1])
          | succ kj6 =>
            have H := HA.out
            clear HA
            simp only [laws_FnConsistencyCovers.j1] at H
            have H' := Aside0.mk H
            clear H
            have hcz13_0 : wc.cell? ⟨gb278, 0, none⟩ = some (.slice Ao10 t270.length co10) := (blk_cell BK278.out 0).trans rfl
            have hcz13_1 : wc.cell? ⟨gb278, 1, none⟩ = some (.int .u64 t273) := (blk_cell BK278.out 1).trans rfl
            have hcz13_2 : wc.cell? ⟨gb278, 2, none⟩ = some (.int .u64 t274) := (blk_cell BK278.out 2).trans rfl
            have hcz13_3 : wc.cell? ⟨gb278, 3, none⟩ = some (.int .i64 t275) := (blk_cell BK278.out 3).trans rfl
            have hcz13_4 : wc.cell? ⟨gb278, 4, none⟩ = some (.int .i64 t276) := (blk_cell BK278.out 4).trans rfl
            have hfz13_0 := blk_frozen BK278.out 0
            have hfz13_1 := blk_frozen BK278.out 1
            have hfz13_2 := blk_frozen BK278.out 2
            have hfz13_3 := blk_frozen BK278.out 3
            have hfz13_4 := blk_frozen BK278.out 4
            go_wp2
            try simp only [Act.put, List.setIfInBounds_toArray, List.set_cons_zero, List.set_cons_succ]
            go_loopg [7, 38] kj6 (fun kq v7 v38 w' => ∃ (x7_3 : Int) (x38_3 : Int), v7 = .int .u64 x7_3 ∧ v38 = .int .i64 x38_3 ∧ Aside0 (laws_FnConsistencyCovers.l0 kq a0 a1 t277 x7_3 x7_6 t270 (t270.length : Int) x38_3 t270 t273 t274 t275 t276 = some r) ∧ Aside0 (kq ≤ kj6) ∧ Aside0 (Kd.R k70 70 w' w.heap.size (fun _ => True) (.slice Ao10 t270.length co10) t270) ∧ Aside0 (Kd.R k70 70 w' w.heap.size (fun _ => True) (.slice Ao10 t270.length co10) t270) ∧ Aside0 (w'.heap[gb278]? = some (.cells #[(.slice Ao10 t270.length co10), .int .u64 t273, .int .u64 t274, .int .i64 t275, .int .i64 t276] 72 (0, 0))) ∧ Aside0 (Below w.heap.size w w'))
            case atStart => exact ⟨(x7_6), (0), (by first | rfl | (simp; done) | (simp [*]; done)), (by first | rfl | (simp; done) | (simp [*]; done)), H', ⟨Nat.le_refl _⟩, ⟨by (with_reducible repeat (first | apply Kd.R_alloc | apply Kd.R_drewN | apply Kd.R_drew)); exact HO_279000.out⟩, ⟨by (with_reducible repeat (first | apply Kd.R_alloc | apply Kd.R_drewN | apply Kd.R_drew)); exact HO_279000.out⟩, ⟨by (with_reducible repeat (first | refine blk_drewN ?_ _ | refine blk_drew ?_ | refine blk_alloc ?_ _)); exact BK278.out⟩, ⟨by repeat (first | (with_reducible first | exact HB.out | apply below_alloc | apply pw_below_drewN | apply below_drew1 | refine below_set ?_ GE278.out) | exact HB.out)⟩⟩
            case round =>
              clear H'
              try clear c1
              try clear p2
              try clear c4
              try clear c4b0
              try clear c4b1
              try clear c5
              try clear c8
              try clear c12
              try clear c12b0
              try clear c12b1
              try clear hcz11_0
              try clear hcz11_1
              try clear hcz11_2
              try clear hcz11_3
              try clear hcz11_4
              try clear hcz13_0
              try clear hcz13_1
              try clear hcz13_2
              try clear hcz13_3
              try clear hcz13_4
              try clear hfz11_0
              try clear hfz11_1
              try clear hfz11_2
              try clear hfz11_3
              try clear hfz11_4
              try clear hfz13_0
              try clear hfz13_1
              try clear hfz13_2
              try clear hfz13_3
              try clear hfz13_4
              try clear p2
              obtain ⟨x7_3, x38_3, rfl, rfl, HA, HK3, HO_36, HO_279000, BK278, HB⟩ := hrel
              cases gk with
              | zero => exact absurd HA.out (by simp [laws_FnConsistencyCovers.l0])
              | succ k3 =>
                have H := HA.out
                clear HA
                simp only [laws_FnConsistencyCovers.l0] at H
                by_cases c14 : x38_3 < (t270.length : Int)
                · rw [if_pos c14] at H
                  have c14b0 : decide (x38_3 < (t270.length : Int)) = true := decide_eq_true c14
                  clear c14
                  by_cases c15 : 0 ≤ x38_3
                  · rw [if_pos c15] at H
                    have c15b0 : decide (0 ≤ x38_3) = true := decide_eq_true c15
                    clear c15
                    by_cases c16 : x38_3 < (t270.length : Int)
                    · rw [if_pos c16] at H
                      have c16b0 : decide (x38_3 < (t270.length : Int)) = true := decide_eq_true c16
                      clear c16
                      replace H := Option.bind_eq_some_iff.mp H
                      obtain ⟨⟨t281, t282⟩, A170, H⟩ := H
                      replace H : (if ((rd_T70 t270 x38_3).f0) ≥ 64 then (laws_FnConsistencyCovers.j3 k3 a0 a1 t277 x7_3 x7_6 x38_3 t270 (t270.length : Int) x38_3 true t270 t273 t274 t275 t276 t281 t282) else (if t282 > a1 then (laws_FnConsistencyCovers.j3 k3 a0 a1 t277 x7_3 x7_6 x38_3 t270 (t270.length : Int) x38_3 true t270 t273 t274 t275 t276 t281 t282) else (if t281 ≥ t282 then (laws_FnConsistencyCovers.j3 k3 a0 a1 t277 x7_3 x7_6 x38_3 t270 (t270.length : Int) x38_3 true t270 t273 t274 t275 t276 t281 t282) else (if t281 < x7_6 then (laws_FnConsistencyCovers.j3 k3 a0 a1 t277 x7_3 x7_6 x38_3 t270 (t270.length : Int) x38_3 true t270 t273 t274 t275 t276 t281 t282) else (if t281 < a0 then (laws_FnConsistencyCovers.j3 k3 a0 a1 t277 x7_3 x7_6 x38_3 t270 (t270.length : Int) x38_3 (decide (t282 > a0)) t270 t273 t274 t275 t276 t281 t282) else (laws_FnConsistencyCovers.j3 k3 a0 a1 t277 x7_3 x7_6 x38_3 t270 (t270.length : Int) x38_3 false t270 t273 t274 t275 t276 t281 t282)))))) = some r := H
                      have A17 := Aside0.mk A170
                      clear A170
                      have HC18 := Aside0.mk H
                      clear H
                      have p279 : 0 ≤ (x38_3 : Int) := of_decide_eq_true (by first | (with_reducible assumption) | assumption)
                      have q279 : x38_3 < (t270.length : Int) := of_decide_eq_true (by first | (with_reducible assumption) | assumption)
                      obtain ⟨ad279, e279, hx279_0, hx279_1⟩ := at_T70 (Kd.R_reads' HO_36.out).2.2 x38_3 p279 q279
                      cases e279
                      replace p279 := eq_true p279
                      replace q279 := eq_true q279
                      go_upto_region 12 with (first | ((with_reducible refine gate_dst (N := 10) rfl ?_); refine box_event ?hg (N := 10) ?hd (cs := #[.int .u64 0, .int .u64 0]) (t := 70) ?hr ?_; (case hd => rfl); (case hg => rfl); (case hr => first | (go_simp; done) | (go_simp; rfl)); intro gb280 hg w19 hbox hb; have n0_ := Aside0.mk (Kd.R_below (Kd.R_elderB (by (with_reducible repeat (first | apply Kd.R_alloc | apply Kd.R_drewN | apply Kd.R_drew)); exact HO_36.out) gb280 (Nat.le_of_eq hg.symm)) hb); have n1_ := Aside0.mk (Kd.R_below (Kd.R_elderB (by (with_reducible repeat (first | apply Kd.R_alloc | apply Kd.R_drewN | apply Kd.R_drew)); exact HO_279000.out) gb280 (Nat.le_of_eq hg.symm)) hb); have n2_ := Aside0.mk (blk_below (g := gb278) (o := .cells #[.slice (some ad279) t270.length co10, .int .u64 t273, .int .u64 t274, .int .i64 t275, .int .i64 t276] 72 (0, 0)) (by (with_reducible repeat (first | refine blk_drewN ?_ _ | refine blk_drew ?_ | refine blk_alloc ?_ _)); exact BK278.out) hb); have n3_ := Aside0.mk (below_step (by repeat (first | (with_reducible first | exact HB.out | apply below_alloc | apply pw_below_drewN | apply below_drew1 | refine below_set ?_ GE278.out) | exact HB.out)) hb); have n4_ := Aside0.mk (hbox); have n5_ := Aside0.mk ((by rw [hg]; exact (below_size (by repeat (first | (with_reducible first | exact HB.out | apply below_alloc | apply pw_below_drewN | apply below_drew1 | refine below_set ?_ GE278.out) | exact HB.out))) : w.heap.size ≤ gb280)); have n6_ := Aside0.mk ((by rw [hg]; exact (below_size (by repeat (first | (with_reducible first | exact HB.out | apply below_alloc | apply pw_below_drewN | apply below_drew1 | refine below_set ?_ GE278.out) | exact HB.out))) : w.heap.size ≤ gb280)); have n7_ := Aside0.mk ((by rw [hg]; exact Nat.ne_of_lt (blk_lt (g := gb278) (o := .cells #[.slice (some ad279) t270.length co10, .int .u64 t273, .int .u64 t274, .int .i64 t275, .int .i64 t276] 72 (0, 0)) (by (with_reducible repeat (first | refine blk_drewN ?_ _ | refine blk_drew ?_ | refine blk_alloc ?_ _)); exact BK278.out)) : gb278 ≠ gb280)); have n8_ := Aside0.mk ((by rw [hg]; exact Nat.ne_of_gt (blk_lt (g := gb278) (o := .cells #[.slice (some ad279) t270.length co10, .int .u64 t273, .int .u64 t274, .int .i64 t275, .int .i64 t276] 72 (0, 0)) (by (with_reducible repeat (first | refine blk_drewN ?_ _ | refine blk_drew ?_ | refine blk_alloc ?_ _)); exact BK278.out)) : gb280 ≠ gb278)); clear HO_36; clear HO_279000; clear BK278; clear HB; have HO_36 := n0_; have HO_279000 := n1_; have BK278 := n2_; have HB := n3_; have BK280 := n4_; have GW280 := n5_; have GE280 := n6_; have NB278_280 := n7_; have NB280_278 := n8_; clear n0_ n1_ n2_ n3_ n4_ n5_ n6_ n7_ n8_; clear hb hbox hg; have hnb20 := NB280_278.out; have hnc20 := NB278_280.out; have hcz21_0 : w19.cell? ⟨gb280, 0, none⟩ = some (.int .u64 0) := (blk_cell BK280.out 0).trans rfl; have hcz21_1 : w19.cell? ⟨gb280, 1, none⟩ = some (.int .u64 0) := (blk_cell BK280.out 1).trans rfl; have hfz21_0 := blk_frozen BK280.out 0; have hfz21_1 := blk_frozen BK280.out 1) | ((with_reducible refine gate_callee (f := 41) rfl ?_); refine goesL_ (some 44) rfl rfl Tryd.func41 (by kernel_rfl) rfl #[.agg #[.int .u64 ((rd_T70 t270 x38_3).f0), .int .u64 ((rd_T70 t270 x38_3).f1)]] rfl (by (try simp only [List.map_toArray, List.map_cons, List.map_nil]); first | done | rfl | (simp only [List.length_drop, List.length_take]; rfl)) ?_; (with_reducible refine (spec_Leaves.calls ((rd_T70 t270 x38_3).f0) ((rd_T70 t270 x38_3).f1) t281 t282 _ A17.out).mono ?_); rintro e w22 ⟨rfl, hb⟩; refine ⟨_, rfl, ?_⟩; have n0_ := Aside0.mk (Kd.R_below (by (with_reducible repeat (first | apply Kd.R_alloc | apply Kd.R_drewN | apply Kd.R_drew)); exact (Kd.R_mono (Kd.R_far (p := ⟨gb280, 1, none⟩) (Kd.R_far (p := ⟨gb280, 0, none⟩) (Kd.R_mono HO_36.out (fun k_ hk => (⟨hk, hk.2⟩ : _ ∧ k_ ≠ gb280))) (fun _ hk => hk.2) (.int .u64 ((rd_T70 t270 x38_3).f0))) (fun _ hk => hk.2) (.int .u64 ((rd_T70 t270 x38_3).f1))) (fun _ h_ => h_.1))) hb); have n1_ := Aside0.mk (Kd.R_below (by (with_reducible repeat (first | apply Kd.R_alloc | apply Kd.R_drewN | apply Kd.R_drew)); exact (Kd.R_mono (Kd.R_far (p := ⟨gb280, 1, none⟩) (Kd.R_far (p := ⟨gb280, 0, none⟩) (Kd.R_mono HO_279000.out (fun k_ hk => (⟨hk, hk.2⟩ : _ ∧ k_ ≠ gb280))) (fun _ hk => hk.2) (.int .u64 ((rd_T70 t270 x38_3).f0))) (fun _ hk => hk.2) (.int .u64 ((rd_T70 t270 x38_3).f1))) (fun _ h_ => h_.1))) hb); have n2_ := Aside0.mk (blk_below (g := gb278) (o := .cells #[.slice (some ad279) t270.length co10, .int .u64 t273, .int .u64 t274, .int .i64 t275, .int .i64 t276] 72 (0, 0)) (by (with_reducible repeat (first | refine blk_drewN ?_ _ | refine blk_drew ?_ | refine blk_alloc ?_ _)); refine blk_far ?_ NB278_280.out _; (with_reducible repeat (first | refine blk_drewN ?_ _ | refine blk_drew ?_ | refine blk_alloc ?_ _)); refine blk_far ?_ NB278_280.out _; (with_reducible repeat (first | refine blk_drewN ?_ _ | refine blk_drew ?_ | refine blk_alloc ?_ _)); exact BK278.out) hb); have n3_ := Aside0.mk (blk_below (g := gb280) (o := .cells #[.int .u64 ((rd_T70 t270 x38_3).f0), .int .u64 ((rd_T70 t270 x38_3).f1)] 70 (0, 0)) (by (with_reducible repeat (first | refine blk_drewN ?_ _ | refine blk_drew ?_ | refine blk_alloc ?_ _)); refine blk_put (cs := #[.int .u64 ((rd_T70 t270 x38_3).f0), .int .u64 0]) ?_ 1 _ rfl; (with_reducible repeat (first | refine blk_drewN ?_ _ | refine blk_drew ?_ | refine blk_alloc ?_ _)); refine blk_put (cs := #[.int .u64 0, .int .u64 0]) ?_ 0 _ rfl; (with_reducible repeat (first | refine blk_drewN ?_ _ | refine blk_drew ?_ | refine blk_alloc ?_ _)); exact BK280.out) hb); have n4_ := Aside0.mk (below_step (by repeat (first | (with_reducible first | exact HB.out | apply below_alloc | apply pw_below_drewN | apply below_drew1 | refine below_set ?_ GE278.out | refine below_set ?_ GE280.out) | exact HB.out)) hb); clear HO_36; clear HO_279000; clear BK278; clear BK280; clear HB; have HO_36 := n0_; have HO_279000 := n1_; have BK278 := n2_; have BK280 := n3_; have HB := n4_; clear n0_ n1_ n2_ n3_ n4_; (try clear hb); (try clear hb2); (try clear hk); (try clear hi)) | ((with_reducible refine gate_dst (N := 11) rfl ?_); refine box_event ?hg (N := 11) ?hd (cs := #[.int .u64 0, .int .u64 0]) (t := 34) ?hr ?_; (case hd => rfl); (case hg => rfl); (case hr => first | (go_simp; done) | (go_simp; rfl)); intro gb283 hg w23 hbox hb; have n0_ := Aside0.mk (Kd.R_below (by (with_reducible repeat (first | apply Kd.R_alloc | apply Kd.R_drewN | apply Kd.R_drew)); exact HO_36.out) hb); have n1_ := Aside0.mk (Kd.R_below (by (with_reducible repeat (first | apply Kd.R_alloc | apply Kd.R_drewN | apply Kd.R_drew)); exact HO_279000.out) hb); have n2_ := Aside0.mk (blk_below (g := gb278) (o := .cells #[.slice (some ad279) t270.length co10, .int .u64 t273, .int .u64 t274, .int .i64 t275, .int .i64 t276] 72 (0, 0)) (by (with_reducible repeat (first | refine blk_drewN ?_ _ | refine blk_drew ?_ | refine blk_alloc ?_ _)); exact BK278.out) hb); have n3_ := Aside0.mk (blk_below (g := gb280) (o := .cells #[.int .u64 ((rd_T70 t270 x38_3).f0), .int .u64 ((rd_T70 t270 x38_3).f1)] 70 (0, 0)) (by (with_reducible repeat (first | refine blk_drewN ?_ _ | refine blk_drew ?_ | refine blk_alloc ?_ _)); exact BK280.out) hb); have n4_ := Aside0.mk (below_step (by repeat (first | (with_reducible first | exact HB.out | apply below_alloc | apply pw_below_drewN | apply below_drew1 | refine below_set ?_ GE278.out | refine below_set ?_ GE280.out) | exact HB.out)) hb); have n5_ := Aside0.mk (hbox); have n6_ := Aside0.mk ((by rw [hg]; exact (below_size (by repeat (first | (with_reducible first | exact HB.out | apply below_alloc | apply pw_below_drewN | apply below_drew1 | refine below_set ?_ GE278.out | refine below_set ?_ GE280.out) | exact HB.out))) : w.heap.size ≤ gb283)); have n7_ := Aside0.mk ((by rw [hg]; exact (below_size (by repeat (first | (with_reducible first | exact HB.out | apply below_alloc | apply pw_below_drewN | apply below_drew1 | refine below_set ?_ GE278.out | refine below_set ?_ GE280.out) | exact HB.out))) : w.heap.size ≤ gb283)); have n8_ := Aside0.mk ((by rw [hg]; exact Nat.ne_of_lt (blk_lt (g := gb278) (o := .cells #[.slice (some ad279) t270.length co10, .int .u64 t273, .int .u64 t274, .int .i64 t275, .int .i64 t276] 72 (0, 0)) (by (with_reducible repeat (first | refine blk_drewN ?_ _ | refine blk_drew ?_ | refine blk_alloc ?_ _)); exact BK278.out)) : gb278 ≠ gb283)); have n9_ := Aside0.mk ((by rw [hg]; exact Nat.ne_of_gt (blk_lt (g := gb278) (o := .cells #[.slice (some ad279) t270.length co10, .int .u64 t273, .int .u64 t274, .int .i64 t275, .int .i64 t276] 72 (0, 0)) (by (with_reducible repeat (first | refine blk_drewN ?_ _ | refine blk_drew ?_ | refine blk_alloc ?_ _)); exact BK278.out)) : gb283 ≠ gb278)); have n10_ := Aside0.mk ((by rw [hg]; exact Nat.ne_of_lt (blk_lt (g := gb280) (o := .cells #[.int .u64 ((rd_T70 t270 x38_3).f0), .int .u64 ((rd_T70 t270 x38_3).f1)] 70 (0, 0)) (by (with_reducible repeat (first | refine blk_drewN ?_ _ | refine blk_drew ?_ | refine blk_alloc ?_ _)); exact BK280.out)) : gb280 ≠ gb283)); have n11_ := Aside0.mk ((by rw [hg]; exact Nat.ne_of_gt (blk_lt (g := gb280) (o := .cells #[.int .u64 ((rd_T70 t270 x38_3).f0), .int .u64 ((rd_T70 t270 x38_3).f1)] 70 (0, 0)) (by (with_reducible repeat (first | refine blk_drewN ?_ _ | refine blk_drew ?_ | refine blk_alloc ?_ _)); exact BK280.out)) : gb283 ≠ gb280)); clear HO_36; clear HO_279000; clear BK278; clear BK280; clear HB; have HO_36 := n0_; have HO_279000 := n1_; have BK278 := n2_; have BK280 := n3_; have HB := n4_; have BK283 := n5_; have GW283 := n6_; have GE283 := n7_; have NB278_283 := n8_; have NB283_278 := n9_; have NB280_283 := n10_; have NB283_280 := n11_; clear n0_ n1_ n2_ n3_ n4_ n5_ n6_ n7_ n8_ n9_ n10_ n11_; clear hb hbox hg; have hnb24 := NB283_278.out; have hnc24 := NB278_283.out; have hnb25 := NB283_280.out; have hnc25 := NB280_283.out; have hcz26_0 : w23.cell? ⟨gb283, 0, none⟩ = some (.int .u64 0) := (blk_cell BK283.out 0).trans rfl; have hcz26_1 : w23.cell? ⟨gb283, 1, none⟩ = some (.int .u64 0) := (blk_cell BK283.out 1).trans rfl; have hfz26_0 := blk_frozen BK283.out 0; have hfz26_1 := blk_frozen BK283.out 1))
                      (try simp only [Act.put, List.setIfInBounds_toArray, List.set_cons_zero, List.set_cons_succ])
                      go_cut [78] (fun v78 wc => ∃ (kq : Nat) (x78_17 : Bool), v78 = .bool x78_17 ∧ Aside0 (laws_FnConsistencyCovers.j3 kq a0 a1 t277 x7_3 x7_6 x38_3 t270 (t270.length : Int) x38_3 x78_17 t270 t273 t274 t275 t276 t281 t282 = some r) ∧ Aside0 (kq ≤ k3) ∧ Aside0 (Kd.R k70 70 wc w.heap.size (fun k_ => k_ ≠ gb280) (.slice (some ad279) t270.length co10) t270) ∧ Aside0 (Kd.R k70 70 wc w.heap.size (fun k_ => k_ ≠ gb280) (.slice (some ad279) t270.length co10) t270) ∧ Aside0 (wc.heap[gb278]? = some (.cells #[(.slice (some ad279) t270.length co10), .int .u64 t273, .int .u64 t274, .int .i64 t275, .int .i64 t276] 72 (0, 0))) ∧ Aside0 (wc.heap[gb280]? = some (.cells #[.int .u64 ((rd_T70 t270 x38_3).f0), .int .u64 ((rd_T70 t270 x38_3).f1)] 70 (0, 0))) ∧ Aside0 (wc.heap[gb283]? = some (.cells #[.int .u64 t281, .int .u64 t282] 34 (0, 0))) ∧ Aside0 (Below w.heap.size w wc))
                      case first =>
                        have H := HC18.out
                        clear HC18
                        by_cases c27 : ((rd_T70 t270 x38_3).f0) ≥ 64
                        · rw [if_pos c27] at H
                          have c27b0 : decide (64 ≤ ((rd_T70 t270 x38_3).f0)) = true := decide_eq_true c27
                          clear c27
                          (first | rw [c27b0] | (simp only [i64_w, i32_w]; rw [c27b0]) | skip)
                          have H' := Aside0.mk H
                          clear H
                          have hnb28 := NB280_278.out
                          have hnc28 := NB278_280.out
                          have hnb29 := NB280_283.out
                          have hnc29 := NB283_280.out
                          have hcz30_0 : w23.cell? ⟨gb280, 0, none⟩ = some (.int .u64 ((rd_T70 t270 x38_3).f0)) := (blk_cell BK280.out 0).trans rfl
                          have hcz30_1 : w23.cell? ⟨gb280, 1, none⟩ = some (.int .u64 ((rd_T70 t270 x38_3).f1)) := (blk_cell BK280.out 1).trans rfl
                          have hfz30_0 := blk_frozen BK280.out 0
                          have hfz30_1 := blk_frozen BK280.out 1
                          go_wp2
                          go_meet
                          case rel => exact ⟨_, (true), (by first | rfl | (simp; done) | (simp [*]; done)), H', ⟨by have := HJ2.out; have := HJ6.out; have := HK3.out; first | omega | exact Nat.le_refl _⟩, ⟨by (with_reducible repeat (first | apply Kd.R_alloc | apply Kd.R_drewN | apply Kd.R_drew)); exact Kd.R_mono (Kd.R_far (p := ⟨gb283, 1, none⟩) (Kd.R_far (p := ⟨gb283, 0, none⟩) (Kd.R_types HO_36.out BK283.out (by decide)) (fun _ hk => hk.2) (.int .u64 t281)) (fun _ hk => hk.2) (.int .u64 t282)) (fun _ hk => hk.1.2)⟩, ⟨by (with_reducible repeat (first | apply Kd.R_alloc | apply Kd.R_drewN | apply Kd.R_drew)); exact Kd.R_mono (Kd.R_far (p := ⟨gb283, 1, none⟩) (Kd.R_far (p := ⟨gb283, 0, none⟩) (Kd.R_types HO_279000.out BK283.out (by decide)) (fun _ hk => hk.2) (.int .u64 t281)) (fun _ hk => hk.2) (.int .u64 t282)) (fun _ hk => hk.1.2)⟩, ⟨by (with_reducible repeat (first | refine blk_drewN ?_ _ | refine blk_drew ?_ | refine blk_alloc ?_ _)); refine blk_far ?_ NB278_283.out _; (with_reducible repeat (first | refine blk_drewN ?_ _ | refine blk_drew ?_ | refine blk_alloc ?_ _)); refine blk_far ?_ NB278_283.out _; (with_reducible repeat (first | refine blk_drewN ?_ _ | refine blk_drew ?_ | refine blk_alloc ?_ _)); exact BK278.out⟩, ⟨by (with_reducible repeat (first | refine blk_drewN ?_ _ | refine blk_drew ?_ | refine blk_alloc ?_ _)); refine blk_far ?_ NB280_283.out _; (with_reducible repeat (first | refine blk_drewN ?_ _ | refine blk_drew ?_ | refine blk_alloc ?_ _)); refine blk_far ?_ NB280_283.out _; (with_reducible repeat (first | refine blk_drewN ?_ _ | refine blk_drew ?_ | refine blk_alloc ?_ _)); exact BK280.out⟩, ⟨by (with_reducible repeat (first | refine blk_drewN ?_ _ | refine blk_drew ?_ | refine blk_alloc ?_ _)); refine blk_put (cs := #[.int .u64 t281, .int .u64 0]) ?_ 1 _ rfl; (with_reducible repeat (first | refine blk_drewN ?_ _ | refine blk_drew ?_ | refine blk_alloc ?_ _)); refine blk_put (cs := #[.int .u64 0, .int .u64 0]) ?_ 0 _ rfl; (with_reducible repeat (first | refine blk_drewN ?_ _ | refine blk_drew ?_ | refine blk_alloc ?_ _)); exact BK283.out⟩, ⟨by repeat (first | (with_reducible first | exact HB.out | apply below_alloc | apply pw_below_drewN | apply below_drew1 | refine below_set ?_ GE278.out | refine below_set ?_ GE280.out | refine below_set ?_ GE283.out) | exact HB.out)⟩⟩
                        · rw [if_neg c27] at H
                          have c27b0 : decide (64 ≤ ((rd_T70 t270 x38_3).f0)) = false := decide_eq_false c27
                          clear c27
                          (first | rw [c27b0] | (simp only [i64_w, i32_w]; rw [c27b0]) | skip)
                          by_cases c31 : t282 > a1
                          · rw [if_pos c31] at H
                            have c31b0 : decide (a1 < t282) = true := decide_eq_true c31
                            clear c31
                            have H' := Aside0.mk H
                            clear H
                            have hnb32 := NB280_278.out
                            have hnc32 := NB278_280.out
                            have hnb33 := NB280_283.out
                            have hnc33 := NB283_280.out
                            have hcz34_0 : w23.cell? ⟨gb280, 0, none⟩ = some (.int .u64 ((rd_T70 t270 x38_3).f0)) := (blk_cell BK280.out 0).trans rfl
                            have hcz34_1 : w23.cell? ⟨gb280, 1, none⟩ = some (.int .u64 ((rd_T70 t270 x38_3).f1)) := (blk_cell BK280.out 1).trans rfl
                            have hfz34_0 := blk_frozen BK280.out 0
                            have hfz34_1 := blk_frozen BK280.out 1
                            have hnb35 := NB283_278.out
                            have hnc35 := NB278_283.out
                            have hcz36_0 : w23.cell? ⟨gb283, 0, none⟩ = some (.int .u64 0) := (blk_cell BK283.out 0).trans rfl
                            have hcz36_1 : w23.cell? ⟨gb283, 1, none⟩ = some (.int .u64 0) := (blk_cell BK283.out 1).trans rfl
                            have hfz36_0 := blk_frozen BK283.out 0
                            have hfz36_1 := blk_frozen BK283.out 1
                            go_wp2
                            go_meet
                            case rel => exact ⟨_, (true), (by first | rfl | (simp; done) | (simp [*]; done)), H', ⟨by have := HJ2.out; have := HJ6.out; have := HK3.out; first | omega | exact Nat.le_refl _⟩, ⟨by (with_reducible repeat (first | apply Kd.R_alloc | apply Kd.R_drewN | apply Kd.R_drew)); exact Kd.R_mono (Kd.R_far (p := ⟨gb283, 1, none⟩) (Kd.R_far (p := ⟨gb283, 0, none⟩) (Kd.R_types HO_36.out BK283.out (by decide)) (fun _ hk => hk.2) (.int .u64 t281)) (fun _ hk => hk.2) (.int .u64 t282)) (fun _ hk => hk.1.2)⟩, ⟨by (with_reducible repeat (first | apply Kd.R_alloc | apply Kd.R_drewN | apply Kd.R_drew)); exact Kd.R_mono (Kd.R_far (p := ⟨gb283, 1, none⟩) (Kd.R_far (p := ⟨gb283, 0, none⟩) (Kd.R_types HO_279000.out BK283.out (by decide)) (fun _ hk => hk.2) (.int .u64 t281)) (fun _ hk => hk.2) (.int .u64 t282)) (fun _ hk => hk.1.2)⟩, ⟨by (with_reducible repeat (first | refine blk_drewN ?_ _ | refine blk_drew ?_ | refine blk_alloc ?_ _)); refine blk_far ?_ NB278_283.out _; (with_reducible repeat (first | refine blk_drewN ?_ _ | refine blk_drew ?_ | refine blk_alloc ?_ _)); refine blk_far ?_ NB278_283.out _; (with_reducible repeat (first | refine blk_drewN ?_ _ | refine blk_drew ?_ | refine blk_alloc ?_ _)); exact BK278.out⟩, ⟨by (with_reducible repeat (first | refine blk_drewN ?_ _ | refine blk_drew ?_ | refine blk_alloc ?_ _)); refine blk_far ?_ NB280_283.out _; (with_reducible repeat (first | refine blk_drewN ?_ _ | refine blk_drew ?_ | refine blk_alloc ?_ _)); refine blk_far ?_ NB280_283.out _; (with_reducible repeat (first | refine blk_drewN ?_ _ | refine blk_drew ?_ | refine blk_alloc ?_ _)); exact BK280.out⟩, ⟨by (with_reducible repeat (first | refine blk_drewN ?_ _ | refine blk_drew ?_ | refine blk_alloc ?_ _)); refine blk_put (cs := #[.int .u64 t281, .int .u64 0]) ?_ 1 _ rfl; (with_reducible repeat (first | refine blk_drewN ?_ _ | refine blk_drew ?_ | refine blk_alloc ?_ _)); refine blk_put (cs := #[.int .u64 0, .int .u64 0]) ?_ 0 _ rfl; (with_reducible repeat (first | refine blk_drewN ?_ _ | refine blk_drew ?_ | refine blk_alloc ?_ _)); exact BK283.out⟩, ⟨by repeat (first | (with_reducible first | exact HB.out | apply below_alloc | apply pw_below_drewN | apply below_drew1 | refine below_set ?_ GE278.out | refine below_set ?_ GE280.out | refine below_set ?_ GE283.out) | exact HB.out)⟩⟩
                          · rw [if_neg c31] at H
                            have c31b0 : decide (a1 < t282) = false := decide_eq_false c31
                            clear c31
                            by_cases c37 : t281 ≥ t282
                            · rw [if_pos c37] at H
                              have c37b0 : decide (t282 ≤ t281) = true := decide_eq_true c37
                              clear c37
                              have H' := Aside0.mk H
                              clear H
                              have hnb38 := NB280_278.out
                              have hnc38 := NB278_280.out
                              have hnb39 := NB280_283.out
                              have hnc39 := NB283_280.out
                              have hcz40_0 : w23.cell? ⟨gb280, 0, none⟩ = some (.int .u64 ((rd_T70 t270 x38_3).f0)) := (blk_cell BK280.out 0).trans rfl
                              have hcz40_1 : w23.cell? ⟨gb280, 1, none⟩ = some (.int .u64 ((rd_T70 t270 x38_3).f1)) := (blk_cell BK280.out 1).trans rfl
                              have hfz40_0 := blk_frozen BK280.out 0
                              have hfz40_1 := blk_frozen BK280.out 1
                              have hnb41 := NB283_278.out
                              have hnc41 := NB278_283.out
                              have hcz42_0 : w23.cell? ⟨gb283, 0, none⟩ = some (.int .u64 0) := (blk_cell BK283.out 0).trans rfl
                              have hcz42_1 : w23.cell? ⟨gb283, 1, none⟩ = some (.int .u64 0) := (blk_cell BK283.out 1).trans rfl
                              have hfz42_0 := blk_frozen BK283.out 0
                              have hfz42_1 := blk_frozen BK283.out 1
                              go_wp2
                              go_meet
                              case rel => exact ⟨_, (true), (by first | rfl | (simp; done) | (simp [*]; done)), H', ⟨by have := HJ2.out; have := HJ6.out; have := HK3.out; first | omega | exact Nat.le_refl _⟩, ⟨by (with_reducible repeat (first | apply Kd.R_alloc | apply Kd.R_drewN | apply Kd.R_drew)); exact Kd.R_mono (Kd.R_far (p := ⟨gb283, 1, none⟩) (Kd.R_far (p := ⟨gb283, 0, none⟩) (Kd.R_types HO_36.out BK283.out (by decide)) (fun _ hk => hk.2) (.int .u64 t281)) (fun _ hk => hk.2) (.int .u64 t282)) (fun _ hk => hk.1.2)⟩, ⟨by (with_reducible repeat (first | apply Kd.R_alloc | apply Kd.R_drewN | apply Kd.R_drew)); exact Kd.R_mono (Kd.R_far (p := ⟨gb283, 1, none⟩) (Kd.R_far (p := ⟨gb283, 0, none⟩) (Kd.R_types HO_279000.out BK283.out (by decide)) (fun _ hk => hk.2) (.int .u64 t281)) (fun _ hk => hk.2) (.int .u64 t282)) (fun _ hk => hk.1.2)⟩, ⟨by (with_reducible repeat (first | refine blk_drewN ?_ _ | refine blk_drew ?_ | refine blk_alloc ?_ _)); refine blk_far ?_ NB278_283.out _; (with_reducible repeat (first | refine blk_drewN ?_ _ | refine blk_drew ?_ | refine blk_alloc ?_ _)); refine blk_far ?_ NB278_283.out _; (with_reducible repeat (first | refine blk_drewN ?_ _ | refine blk_drew ?_ | refine blk_alloc ?_ _)); exact BK278.out⟩, ⟨by (with_reducible repeat (first | refine blk_drewN ?_ _ | refine blk_drew ?_ | refine blk_alloc ?_ _)); refine blk_far ?_ NB280_283.out _; (with_reducible repeat (first | refine blk_drewN ?_ _ | refine blk_drew ?_ | refine blk_alloc ?_ _)); refine blk_far ?_ NB280_283.out _; (with_reducible repeat (first | refine blk_drewN ?_ _ | refine blk_drew ?_ | refine blk_alloc ?_ _)); exact BK280.out⟩, ⟨by (with_reducible repeat (first | refine blk_drewN ?_ _ | refine blk_drew ?_ | refine blk_alloc ?_ _)); refine blk_put (cs := #[.int .u64 t281, .int .u64 0]) ?_ 1 _ rfl; (with_reducible repeat (first | refine blk_drewN ?_ _ | refine blk_drew ?_ | refine blk_alloc ?_ _)); refine blk_put (cs := #[.int .u64 0, .int .u64 0]) ?_ 0 _ rfl; (with_reducible repeat (first | refine blk_drewN ?_ _ | refine blk_drew ?_ | refine blk_alloc ?_ _)); exact BK283.out⟩, ⟨by repeat (first | (with_reducible first | exact HB.out | apply below_alloc | apply pw_below_drewN | apply below_drew1 | refine below_set ?_ GE278.out | refine below_set ?_ GE280.out | refine below_set ?_ GE283.out) | exact HB.out)⟩⟩
                            · rw [if_neg c37] at H
                              have c37b0 : decide (t282 ≤ t281) = false := decide_eq_false c37
                              clear c37
                              by_cases c43 : t281 < x7_6
                              · rw [if_pos c43] at H
                                have c43b0 : decide (t281 < x7_6) = true := decide_eq_true c43
                                clear c43
                                have H' := Aside0.mk H
                                clear H
                                have hnb44 := NB280_278.out
                                have hnc44 := NB278_280.out
                                have hnb45 := NB280_283.out
                                have hnc45 := NB283_280.out
                                have hcz46_0 : w23.cell? ⟨gb280, 0, none⟩ = some (.int .u64 ((rd_T70 t270 x38_3).f0)) := (blk_cell BK280.out 0).trans rfl
                                have hcz46_1 : w23.cell? ⟨gb280, 1, none⟩ = some (.int .u64 ((rd_T70 t270 x38_3).f1)) := (blk_cell BK280.out 1).trans rfl
                                have hfz46_0 := blk_frozen BK280.out 0
                                have hfz46_1 := blk_frozen BK280.out 1
                                have hnb47 := NB283_278.out
                                have hnc47 := NB278_283.out
                                have hcz48_0 : w23.cell? ⟨gb283, 0, none⟩ = some (.int .u64 0) := (blk_cell BK283.out 0).trans rfl
                                have hcz48_1 : w23.cell? ⟨gb283, 1, none⟩ = some (.int .u64 0) := (blk_cell BK283.out 1).trans rfl
                                have hfz48_0 := blk_frozen BK283.out 0
                                have hfz48_1 := blk_frozen BK283.out 1
                                go_wp2
                                go_meet
                                case rel => exact ⟨_, (true), (by first | rfl | (simp; done) | (simp [*]; done)), H', ⟨by have := HJ2.out; have := HJ6.out; have := HK3.out; first | omega | exact Nat.le_refl _⟩, ⟨by (with_reducible repeat (first | apply Kd.R_alloc | apply Kd.R_drewN | apply Kd.R_drew)); exact Kd.R_mono (Kd.R_far (p := ⟨gb283, 1, none⟩) (Kd.R_far (p := ⟨gb283, 0, none⟩) (Kd.R_types HO_36.out BK283.out (by decide)) (fun _ hk => hk.2) (.int .u64 t281)) (fun _ hk => hk.2) (.int .u64 t282)) (fun _ hk => hk.1.2)⟩, ⟨by (with_reducible repeat (first | apply Kd.R_alloc | apply Kd.R_drewN | apply Kd.R_drew)); exact Kd.R_mono (Kd.R_far (p := ⟨gb283, 1, none⟩) (Kd.R_far (p := ⟨gb283, 0, none⟩) (Kd.R_types HO_279000.out BK283.out (by decide)) (fun _ hk => hk.2) (.int .u64 t281)) (fun _ hk => hk.2) (.int .u64 t282)) (fun _ hk => hk.1.2)⟩, ⟨by (with_reducible repeat (first | refine blk_drewN ?_ _ | refine blk_drew ?_ | refine blk_alloc ?_ _)); refine blk_far ?_ NB278_283.out _; (with_reducible repeat (first | refine blk_drewN ?_ _ | refine blk_drew ?_ | refine blk_alloc ?_ _)); refine blk_far ?_ NB278_283.out _; (with_reducible repeat (first | refine blk_drewN ?_ _ | refine blk_drew ?_ | refine blk_alloc ?_ _)); exact BK278.out⟩, ⟨by (with_reducible repeat (first | refine blk_drewN ?_ _ | refine blk_drew ?_ | refine blk_alloc ?_ _)); refine blk_far ?_ NB280_283.out _; (with_reducible repeat (first | refine blk_drewN ?_ _ | refine blk_drew ?_ | refine blk_alloc ?_ _)); refine blk_far ?_ NB280_283.out _; (with_reducible repeat (first | refine blk_drewN ?_ _ | refine blk_drew ?_ | refine blk_alloc ?_ _)); exact BK280.out⟩, ⟨by (with_reducible repeat (first | refine blk_drewN ?_ _ | refine blk_drew ?_ | refine blk_alloc ?_ _)); refine blk_put (cs := #[.int .u64 t281, .int .u64 0]) ?_ 1 _ rfl; (with_reducible repeat (first | refine blk_drewN ?_ _ | refine blk_drew ?_ | refine blk_alloc ?_ _)); refine blk_put (cs := #[.int .u64 0, .int .u64 0]) ?_ 0 _ rfl; (with_reducible repeat (first | refine blk_drewN ?_ _ | refine blk_drew ?_ | refine blk_alloc ?_ _)); exact BK283.out⟩, ⟨by repeat (first | (with_reducible first | exact HB.out | apply below_alloc | apply pw_below_drewN | apply below_drew1 | refine below_set ?_ GE278.out | refine below_set ?_ GE280.out | refine below_set ?_ GE283.out) | exact HB.out)⟩⟩
                              · rw [if_neg c43] at H
                                have c43b0 : decide (t281 < x7_6) = false := decide_eq_false c43
                                clear c43
                                by_cases c49 : t281 < a0
                                · rw [if_pos c49] at H
                                  have c49b0 : decide (t281 < a0) = true := decide_eq_true c49
                                  clear c49
                                  have H' := Aside0.mk H
                                  clear H
                                  have hnb50 := NB280_278.out
                                  have hnc50 := NB278_280.out
                                  have hnb51 := NB280_283.out
                                  have hnc51 := NB283_280.out
                                  have hcz52_0 : w23.cell? ⟨gb280, 0, none⟩ = some (.int .u64 ((rd_T70 t270 x38_3).f0)) := (blk_cell BK280.out 0).trans rfl
                                  have hcz52_1 : w23.cell? ⟨gb280, 1, none⟩ = some (.int .u64 ((rd_T70 t270 x38_3).f1)) := (blk_cell BK280.out 1).trans rfl
                                  have hfz52_0 := blk_frozen BK280.out 0
                                  have hfz52_1 := blk_frozen BK280.out 1
                                  have hnb53 := NB283_278.out
                                  have hnc53 := NB278_283.out
                                  have hcz54_0 : w23.cell? ⟨gb283, 0, none⟩ = some (.int .u64 0) := (blk_cell BK283.out 0).trans rfl
                                  have hcz54_1 : w23.cell? ⟨gb283, 1, none⟩ = some (.int .u64 0) := (blk_cell BK283.out 1).trans rfl
                                  have hfz54_0 := blk_frozen BK283.out 0
                                  have hfz54_1 := blk_frozen BK283.out 1
                                  go_wp2
                                  go_meet
                                  case rel => exact ⟨_, (decide (t282 > a0)), (by first | rfl | (simp; done) | (simp [*]; done)), H', ⟨by have := HJ2.out; have := HJ6.out; have := HK3.out; first | omega | exact Nat.le_refl _⟩, ⟨by (with_reducible repeat (first | apply Kd.R_alloc | apply Kd.R_drewN | apply Kd.R_drew)); exact Kd.R_mono (Kd.R_far (p := ⟨gb283, 1, none⟩) (Kd.R_far (p := ⟨gb283, 0, none⟩) (Kd.R_types HO_36.out BK283.out (by decide)) (fun _ hk => hk.2) (.int .u64 t281)) (fun _ hk => hk.2) (.int .u64 t282)) (fun _ hk => hk.1.2)⟩, ⟨by (with_reducible repeat (first | apply Kd.R_alloc | apply Kd.R_drewN | apply Kd.R_drew)); exact Kd.R_mono (Kd.R_far (p := ⟨gb283, 1, none⟩) (Kd.R_far (p := ⟨gb283, 0, none⟩) (Kd.R_types HO_279000.out BK283.out (by decide)) (fun _ hk => hk.2) (.int .u64 t281)) (fun _ hk => hk.2) (.int .u64 t282)) (fun _ hk => hk.1.2)⟩, ⟨by (with_reducible repeat (first | refine blk_drewN ?_ _ | refine blk_drew ?_ | refine blk_alloc ?_ _)); refine blk_far ?_ NB278_283.out _; (with_reducible repeat (first | refine blk_drewN ?_ _ | refine blk_drew ?_ | refine blk_alloc ?_ _)); refine blk_far ?_ NB278_283.out _; (with_reducible repeat (first | refine blk_drewN ?_ _ | refine blk_drew ?_ | refine blk_alloc ?_ _)); exact BK278.out⟩, ⟨by (with_reducible repeat (first | refine blk_drewN ?_ _ | refine blk_drew ?_ | refine blk_alloc ?_ _)); refine blk_far ?_ NB280_283.out _; (with_reducible repeat (first | refine blk_drewN ?_ _ | refine blk_drew ?_ | refine blk_alloc ?_ _)); refine blk_far ?_ NB280_283.out _; (with_reducible repeat (first | refine blk_drewN ?_ _ | refine blk_drew ?_ | refine blk_alloc ?_ _)); exact BK280.out⟩, ⟨by (with_reducible repeat (first | refine blk_drewN ?_ _ | refine blk_drew ?_ | refine blk_alloc ?_ _)); refine blk_put (cs := #[.int .u64 t281, .int .u64 0]) ?_ 1 _ rfl; (with_reducible repeat (first | refine blk_drewN ?_ _ | refine blk_drew ?_ | refine blk_alloc ?_ _)); refine blk_put (cs := #[.int .u64 0, .int .u64 0]) ?_ 0 _ rfl; (with_reducible repeat (first | refine blk_drewN ?_ _ | refine blk_drew ?_ | refine blk_alloc ?_ _)); exact BK283.out⟩, ⟨by repeat (first | (with_reducible first | exact HB.out | apply below_alloc | apply pw_below_drewN | apply below_drew1 | refine below_set ?_ GE278.out | refine below_set ?_ GE280.out | refine below_set ?_ GE283.out) | exact HB.out)⟩⟩
                                · rw [if_neg c49] at H
                                  have c49b0 : decide (t281 < a0) = false := decide_eq_false c49
                                  clear c49
                                  have H' := Aside0.mk H
                                  clear H
                                  have hnb55 := NB280_278.out
                                  have hnc55 := NB278_280.out
                                  have hnb56 := NB280_283.out
                                  have hnc56 := NB283_280.out
                                  have hcz57_0 : w23.cell? ⟨gb280, 0, none⟩ = some (.int .u64 ((rd_T70 t270 x38_3).f0)) := (blk_cell BK280.out 0).trans rfl
                                  have hcz57_1 : w23.cell? ⟨gb280, 1, none⟩ = some (.int .u64 ((rd_T70 t270 x38_3).f1)) := (blk_cell BK280.out 1).trans rfl
                                  have hfz57_0 := blk_frozen BK280.out 0
                                  have hfz57_1 := blk_frozen BK280.out 1
                                  have hnb58 := NB283_278.out
                                  have hnc58 := NB278_283.out
                                  have hcz59_0 : w23.cell? ⟨gb283, 0, none⟩ = some (.int .u64 0) := (blk_cell BK283.out 0).trans rfl
                                  have hcz59_1 : w23.cell? ⟨gb283, 1, none⟩ = some (.int .u64 0) := (blk_cell BK283.out 1).trans rfl
                                  have hfz59_0 := blk_frozen BK283.out 0
                                  have hfz59_1 := blk_frozen BK283.out 1
                                  go_wp2
                                  go_meet
                                  case rel => exact ⟨_, (false), (by first | rfl | (simp; done) | (simp [*]; done)), H', ⟨by have := HJ2.out; have := HJ6.out; have := HK3.out; first | omega | exact Nat.le_refl _⟩, ⟨by (with_reducible repeat (first | apply Kd.R_alloc | apply Kd.R_drewN | apply Kd.R_drew)); exact Kd.R_mono (Kd.R_far (p := ⟨gb283, 1, none⟩) (Kd.R_far (p := ⟨gb283, 0, none⟩) (Kd.R_types HO_36.out BK283.out (by decide)) (fun _ hk => hk.2) (.int .u64 t281)) (fun _ hk => hk.2) (.int .u64 t282)) (fun _ hk => hk.1.2)⟩, ⟨by (with_reducible repeat (first | apply Kd.R_alloc | apply Kd.R_drewN | apply Kd.R_drew)); exact Kd.R_mono (Kd.R_far (p := ⟨gb283, 1, none⟩) (Kd.R_far (p := ⟨gb283, 0, none⟩) (Kd.R_types HO_279000.out BK283.out (by decide)) (fun _ hk => hk.2) (.int .u64 t281)) (fun _ hk => hk.2) (.int .u64 t282)) (fun _ hk => hk.1.2)⟩, ⟨by (with_reducible repeat (first | refine blk_drewN ?_ _ | refine blk_drew ?_ | refine blk_alloc ?_ _)); refine blk_far ?_ NB278_283.out _; (with_reducible repeat (first | refine blk_drewN ?_ _ | refine blk_drew ?_ | refine blk_alloc ?_ _)); refine blk_far ?_ NB278_283.out _; (with_reducible repeat (first | refine blk_drewN ?_ _ | refine blk_drew ?_ | refine blk_alloc ?_ _)); exact BK278.out⟩, ⟨by (with_reducible repeat (first | refine blk_drewN ?_ _ | refine blk_drew ?_ | refine blk_alloc ?_ _)); refine blk_far ?_ NB280_283.out _; (with_reducible repeat (first | refine blk_drewN ?_ _ | refine blk_drew ?_ | refine blk_alloc ?_ _)); refine blk_far ?_ NB280_283.out _; (with_reducible repeat (first | refine blk_drewN ?_ _ | refine blk_drew ?_ | refine blk_alloc ?_ _)); exact BK280.out⟩, ⟨by (with_reducible repeat (first | refine blk_drewN ?_ _ | refine blk_drew ?_ | refine blk_alloc ?_ _)); refine blk_put (cs := #[.int .u64 t281, .int .u64 0]) ?_ 1 _ rfl; (with_reducible repeat (first | refine blk_drewN ?_ _ | refine blk_drew ?_ | refine blk_alloc ?_ _)); refine blk_put (cs := #[.int .u64 0, .int .u64 0]) ?_ 0 _ rfl; (with_reducible repeat (first | refine blk_drewN ?_ _ | refine blk_drew ?_ | refine blk_alloc ?_ _)); exact BK283.out⟩, ⟨by repeat (first | (with_reducible first | exact HB.out | apply below_alloc | apply pw_below_drewN | apply below_drew1 | refine below_set ?_ GE278.out | refine below_set ?_ GE280.out | refine below_set ?_ GE283.out) | exact HB.out)⟩⟩
                      case rest =>
                        clear HC18
                        try clear c1
                        try clear c2
                        try clear p2
                        try clear q2
                        try clear hx2
                        try clear c3
                        try clear c4
                        try clear c4b0
                        try clear c4b1
                        try clear c5
                        try clear c8
                        try clear c12
                        try clear c12b0
                        try clear c12b1
                        try clear c14
                        try clear c14b0
                        try clear c15
                        try clear c15b0
                        try clear c16
                        try clear c16b0
                        try clear c20
                        try clear c24
                        try clear c25
                        try clear c27
                        try clear c27b0
                        try clear p27
                        try clear q27
                        try clear hx27
                        try clear c28
                        try clear c29
                        try clear c31
                        try clear c31b0
                        try clear c32
                        try clear c33
                        try clear c35
                        try clear c37
                        try clear c37b0
                        try clear c38
                        try clear c39
                        try clear c40
                        try clear c41
                        try clear c43
                        try clear c43b0
                        try clear c44
                        try clear c45
                        try clear c47
                        try clear c49
                        try clear c49b0
                        try clear c50
                        try clear c51
                        try clear c53
                        try clear c55
                        try clear c56
                        try clear c58
                        try clear hcz11_0
                        try clear hcz11_1
                        try clear hcz11_2
                        try clear hcz11_3
                        try clear hcz11_4
                        try clear hcz13_0
                        try clear hcz13_1
                        try clear hcz13_2
                        try clear hcz13_3
                        try clear hcz13_4
                        try clear hcz21_0
                        try clear hcz21_1
                        try clear hcz26_0
                        try clear hcz26_1
                        try clear hcz30_0
                        try clear hcz30_1
                        try clear hcz34_0
                        try clear hcz34_1
                        try clear hcz36_0
                        try clear hcz36_1
                        try clear hcz40_0
                        try clear hcz40_1
                        try clear hcz42_0
                        try clear hcz42_1
                        try clear hcz46_0
                        try clear hcz46_1
                        try clear hcz48_0
                        try clear hcz48_1
                        try clear hcz52_0
                        try clear hcz52_1
                        try clear hcz54_0
                        try clear hcz54_1
                        try clear hcz57_0
                        try clear hcz57_1
                        try clear hcz59_0
                        try clear hcz59_1
                        try clear hfz11_0
                        try clear hfz11_1
                        try clear hfz11_2
                        try clear hfz11_3
                        try clear hfz11_4
                        try clear hfz13_0
                        try clear hfz13_1
                        try clear hfz13_2
                        try clear hfz13_3
                        try clear hfz13_4
                        try clear hfz21_0
                        try clear hfz21_1
                        try clear hfz26_0
                        try clear hfz26_1
                        try clear hfz30_0
                        try clear hfz30_1
                        try clear hfz34_0
                        try clear hfz34_1
                        try clear hfz36_0
                        try clear hfz36_1
                        try clear hfz40_0
                        try clear hfz40_1
                        try clear hfz42_0
                        try clear hfz42_1
                        try clear hfz46_0
                        try clear hfz46_1
                        try clear hfz48_0
                        try clear hfz48_1
                        try clear hfz52_0
                        try clear hfz52_1
                        try clear hfz54_0
                        try clear hfz54_1
                        try clear hfz57_0
                        try clear hfz57_1
                        try clear hfz59_0
                        try clear hfz59_1
                        try clear hx279_0
                        try clear hx279_1
                        try clear p2
                        try clear p279
                        try clear q279
                        obtain ⟨kq, x78_17, rfl, HA, HJ17, HO_36, HO_279000, BK278, BK280, BK283, HB⟩ := hcut
                        cases kq with
                        | zero => exact absurd HA.out (by simp [laws_FnConsistencyCovers.j3])
                        | succ kj17 =>
                          have H := HA.out
                          clear HA
                          simp only [laws_FnConsistencyCovers.j3] at H
                          by_cases c60 : x78_17 = true
                          · subst c60
                            have H1 : (some false) = some r := by rw [if_pos rfl] at H; exact H
                            clear H
                            have H := H1
                            clear H1
                            obtain rfl := Option.some.inj H
                            go_wp2
                            go_ret
                            exact ⟨by first | rfl | (simp [errW_none, errW_some] <;> rfl) | (simp [*, errW_none, errW_some] <;> rfl), by repeat (first | (with_reducible first | exact HB.out | apply below_alloc | apply pw_below_drewN | apply below_drew1 | refine below_set ?_ GE278.out | refine below_set ?_ GE280.out | refine below_set ?_ GE283.out) | exact HB.out)⟩
                          · replace c60 := Bool.eq_false_iff.mpr c60
                            subst c60
                            have H1 : (if 0 ≤ x38_3 then (if x38_3 ≤ (t270.length : Int) then ((some (t270.take (x38_3 : Int).toNat : List (S70))).bind fun y284 => (laws_FnConsistencyCovers.l1 kj17 a0 a1 t277 x7_3 x7_6 t270 (t270.length : Int) x38_3 y284 (y284.length : Int) 0 t270 t273 t274 t275 t276 t281 t282)) else (none)) else (none)) = some r := by rw [if_neg (show ¬ (false = true) by decide)] at H; exact H
                            clear H
                            have H := H1
                            clear H1
                            by_cases c61 : 0 ≤ x38_3
                            · rw [if_pos c61] at H
                              have c61b0 := eq_true c61
                              have c61b1 : decide (0 ≤ x38_3) = true := decide_eq_true c61
                              clear c61
                              by_cases c62 : x38_3 ≤ (t270.length : Int)
                              · rw [if_pos c62] at H
                                have c62b0 := eq_true c62
                                have c62b1 : decide (x38_3 ≤ (t270.length : Int)) = true := decide_eq_true c62
                                clear c62
                                obtain ⟨y284, hy284⟩ : ∃ y_ : List (S70), y_ = (t270.take (x38_3 : Int).toNat) := ⟨_, rfl⟩
                                replace H : (laws_FnConsistencyCovers.l1 kj17 a0 a1 t277 x7_3 x7_6 t270 (t270.length : Int) x38_3 y284 (y284.length : Int) 0 t270 t273 t274 t275 t276 t281 t282) = some r := by first | (rw [hy284]; with_reducible exact H) | (have H2_ := (Option.bind_some _ _).symm.trans H; rw [hy284]; with_reducible exact H2_) | (have H2_ := (Option.bind_some _ _).symm.trans H; with_reducible exact H2_) | with_reducible exact H | (rw [hy284]; exact H) | exact H
                                have Ny284 := Aside0.mk hy284
                                clear hy284
                                have H' := Aside0.mk H
                                clear H
                                have hnb63 := NB278_280.out
                                have hnc63 := NB280_278.out
                                have hnb64 := NB278_283.out
                                have hnc64 := NB283_278.out
                                have hcz65_0 : wc.cell? ⟨gb278, 0, none⟩ = some (.slice (some ad279) t270.length co10) := (blk_cell BK278.out 0).trans rfl
                                have hcz65_1 : wc.cell? ⟨gb278, 1, none⟩ = some (.int .u64 t273) := (blk_cell BK278.out 1).trans rfl
                                have hcz65_2 : wc.cell? ⟨gb278, 2, none⟩ = some (.int .u64 t274) := (blk_cell BK278.out 2).trans rfl
                                have hcz65_3 : wc.cell? ⟨gb278, 3, none⟩ = some (.int .i64 t275) := (blk_cell BK278.out 3).trans rfl
                                have hcz65_4 : wc.cell? ⟨gb278, 4, none⟩ = some (.int .i64 t276) := (blk_cell BK278.out 4).trans rfl
                                have hfz65_0 := blk_frozen BK278.out 0
                                have hfz65_1 := blk_frozen BK278.out 1
                                have hfz65_2 := blk_frozen BK278.out 2
                                have hfz65_3 := blk_frozen BK278.out 3
                                have hfz65_4 := blk_frozen BK278.out 4
                                have q66 : (x38_3 : Int) ≤ ((t270.length : Int) : Int) := of_decide_eq_true (by first | (with_reducible assumption) | assumption)
                                obtain ⟨i066, hi066, _, hsz66, _⟩ := info_parts info70
                                have hroom66 : t270.length ≤ co10 := (Kd.R_reads' HO_279000.out).2.1
                                have hC66 : Kd.C k70 _ (some ad279) t270.length t270 := (Kd.R_reads' HO_279000.out).2.2
                                have hcut66 := cut_to (P := Tryd.prog) 29 70 .i64 Tryd.underlying29 hi066 (some ad279) t270.length co10 x38_3 (of_decide_eq_true (by first | (with_reducible assumption) | assumption)) q66 hroom66
                                have hr66 := Kd.C_take (m := (x38_3 : Int).toNat) hC66 (by omega)
                                have hy66 : y284.length = (x38_3 : Int).toNat := (by rw [Ny284.out, List.length_take]; omega)
                                rw [← Ny284.out] at hr66
                                rw [← hy66] at hcut66
                                have HR287 := Aside0.mk hr66
                                have HC287 := Aside0.mk (show y284.length ≤ co10 from by omega)
                                clear hr66 hC66 hroom66 hi066 hsz66
                                have KY66 := Aside0.mk hy66
                                clear hy66
                                have KL66 := Aside0.mk (show (x38_3 : Int).toNat ≤ t270.length from by omega)
                                replace q66 := eq_true q66
                                go_wp2
                                try simp only [Act.put, List.setIfInBounds_toArray, List.set_cons_zero, List.set_cons_succ]
                                go_loopg [84] kj17 (fun kq v84 w' => ∃ (x84_5 : Int), v84 = .int .i64 x84_5 ∧ Aside0 (laws_FnConsistencyCovers.l1 kq a0 a1 t277 x7_3 x7_6 t270 (t270.length : Int) x38_3 y284 (y284.length : Int) x84_5 t270 t273 t274 t275 t276 t281 t282 = some r) ∧ Aside0 (kq ≤ kj17) ∧ Aside0 (Kd.R k70 70 w' w.heap.size (fun k_ => k_ ≠ gb280) (.slice (some ad279) t270.length co10) t270) ∧ Aside0 (Kd.R k70 70 w' w.heap.size (fun k_ => k_ ≠ gb280) (.slice (some ad279) t270.length co10) t270) ∧ Aside0 (w'.heap[gb278]? = some (.cells #[(.slice (some ad279) t270.length co10), .int .u64 t273, .int .u64 t274, .int .i64 t275, .int .i64 t276] 72 (0, 0))) ∧ Aside0 (w'.heap[gb280]? = some (.cells #[.int .u64 ((rd_T70 t270 x38_3).f0), .int .u64 ((rd_T70 t270 x38_3).f1)] 70 (0, 0))) ∧ Aside0 (w'.heap[gb283]? = some (.cells #[.int .u64 t281, .int .u64 t282] 34 (0, 0))) ∧ Aside0 (Kd.C k70 w' (some ad279) y284.length y284) ∧ Aside0 (Below w.heap.size w w'))
                                case atStart => exact ⟨(0), (by first | rfl | (simp; done) | (simp [*]; done)), H', ⟨Nat.le_refl _⟩, ⟨by (with_reducible repeat (first | apply Kd.R_alloc | apply Kd.R_drewN | apply Kd.R_drew)); exact HO_36.out⟩, ⟨by (with_reducible repeat (first | apply Kd.R_alloc | apply Kd.R_drewN | apply Kd.R_drew)); exact HO_279000.out⟩, ⟨by (with_reducible repeat (first | refine blk_drewN ?_ _ | refine blk_drew ?_ | refine blk_alloc ?_ _)); exact BK278.out⟩, ⟨by (with_reducible repeat (first | refine blk_drewN ?_ _ | refine blk_drew ?_ | refine blk_alloc ?_ _)); exact BK280.out⟩, ⟨by (with_reducible repeat (first | refine blk_drewN ?_ _ | refine blk_drew ?_ | refine blk_alloc ?_ _)); exact BK283.out⟩, ⟨by repeat (first | (with_reducible exact HR287.out) | (with_reducible refine Kd.C_alloc ?_ _) | (with_reducible refine Kd.C_drewN ?_ _) | (with_reducible refine Kd.C_drew ?_) | exact HR287.out)⟩, ⟨by repeat (first | (with_reducible first | exact HB.out | apply below_alloc | apply pw_below_drewN | apply below_drew1 | refine below_set ?_ GE278.out | refine below_set ?_ GE280.out | refine below_set ?_ GE283.out) | exact HB.out)⟩⟩
                                case round =>
                                  clear H'
                                  try clear c1
                                  try clear c2
                                  try clear p2
                                  try clear q2
                                  try clear hx2
                                  try clear c3
                                  try clear c4
                                  try clear c4b0
                                  try clear c4b1
                                  try clear c5
                                  try clear c6
                                  try clear q6
                                  try clear c8
                                  try clear c12
                                  try clear c12b0
                                  try clear c12b1
                                  try clear c14
                                  try clear c14b0
                                  try clear c15
                                  try clear c15b0
                                  try clear c16
                                  try clear c16b0
                                  try clear c20
                                  try clear c24
                                  try clear c25
                                  try clear c27
                                  try clear c27b0
                                  try clear p27
                                  try clear q27
                                  try clear hx27
                                  try clear c28
                                  try clear c29
                                  try clear c31
                                  try clear c31b0
                                  try clear c32
                                  try clear c33
                                  try clear c35
                                  try clear c37
                                  try clear c37b0
                                  try clear c38
                                  try clear c39
                                  try clear c40
                                  try clear c41
                                  try clear c43
                                  try clear c43b0
                                  try clear c44
                                  try clear c45
                                  try clear c47
                                  try clear c49
                                  try clear c49b0
                                  try clear c50
                                  try clear c51
                                  try clear c53
                                  try clear c55
                                  try clear c56
                                  try clear c58
                                  try clear c60
                                  try clear c61
                                  try clear c61b0
                                  try clear c61b1
                                  try clear c62
                                  try clear c62b0
                                  try clear c62b1
                                  try clear c63
                                  try clear c64
                                  try clear q66
                                  try clear hcz11_0
                                  try clear hcz11_1
                                  try clear hcz11_2
                                  try clear hcz11_3
                                  try clear hcz11_4
                                  try clear hcz13_0
                                  try clear hcz13_1
                                  try clear hcz13_2
                                  try clear hcz13_3
                                  try clear hcz13_4
                                  try clear hcz21_0
                                  try clear hcz21_1
                                  try clear hcz26_0
                                  try clear hcz26_1
                                  try clear hcz30_0
                                  try clear hcz30_1
                                  try clear hcz34_0
                                  try clear hcz34_1
                                  try clear hcz36_0
                                  try clear hcz36_1
                                  try clear hcz40_0
                                  try clear hcz40_1
                                  try clear hcz42_0
                                  try clear hcz42_1
                                  try clear hcz46_0
                                  try clear hcz46_1
                                  try clear hcz48_0
                                  try clear hcz48_1
                                  try clear hcz52_0
                                  try clear hcz52_1
                                  try clear hcz54_0
                                  try clear hcz54_1
                                  try clear hcz57_0
                                  try clear hcz57_1
                                  try clear hcz59_0
                                  try clear hcz59_1
                                  try clear hcz65_0
                                  try clear hcz65_1
                                  try clear hcz65_2
                                  try clear hcz65_3
                                  try clear hcz65_4
                                  try clear hfz11_0
                                  try clear hfz11_1
                                  try clear hfz11_2
                                  try clear hfz11_3
                                  try clear hfz11_4
                                  try clear hfz13_0
                                  try clear hfz13_1
                                  try clear hfz13_2
                                  try clear hfz13_3
                                  try clear hfz13_4
                                  try clear hfz21_0
                                  try clear hfz21_1
                                  try clear hfz26_0
                                  try clear hfz26_1
                                  try clear hfz30_0
                                  try clear hfz30_1
                                  try clear hfz34_0
                                  try clear hfz34_1
                                  try clear hfz36_0
                                  try clear hfz36_1
                                  try clear hfz40_0
                                  try clear hfz40_1
                                  try clear hfz42_0
                                  try clear hfz42_1
                                  try clear hfz46_0
                                  try clear hfz46_1
                                  try clear hfz48_0
                                  try clear hfz48_1
                                  try clear hfz52_0
                                  try clear hfz52_1
                                  try clear hfz54_0
                                  try clear hfz54_1
                                  try clear hfz57_0
                                  try clear hfz57_1
                                  try clear hfz59_0
                                  try clear hfz59_1
                                  try clear hfz65_0
                                  try clear hfz65_1
                                  try clear hfz65_2
                                  try clear hfz65_3
                                  try clear hfz65_4
                                  try clear hx279_0
                                  try clear hx279_1
                                  try clear p2
                                  try clear p27
                                  try clear p279
                                  try clear q2
                                  try clear q27
                                  try clear q279
                                  try clear q66
                                  obtain ⟨x84_5, rfl, HA, HK5, HO_36, HO_279000, BK278, BK280, BK283, HR287, HB⟩ := hrel
                                  cases gk with
                                  | zero => exact absurd HA.out (by simp [laws_FnConsistencyCovers.l1])
                                  | succ k5 =>
                                    have H := HA.out
                                    clear HA
                                    simp only [laws_FnConsistencyCovers.l1] at H
                                    by_cases c67 : x84_5 < (y284.length : Int)
                                    · rw [if_pos c67] at H
                                      have c67b0 : decide (x84_5 < (y284.length : Int)) = true := decide_eq_true c67
                                      clear c67
                                      by_cases c68 : 0 ≤ x84_5
                                      · rw [if_pos c68] at H
                                        have c68b0 : decide (0 ≤ x84_5) = true := decide_eq_true c68
                                        clear c68
                                        by_cases c69 : x84_5 < (y284.length : Int)
                                        · rw [if_pos c69] at H
                                          have c69b0 : decide (x84_5 < (y284.length : Int)) = true := decide_eq_true c69
                                          clear c69
                                          replace H := Option.bind_eq_some_iff.mp H
                                          obtain ⟨⟨t290, t291⟩, A700, H⟩ := H
                                          replace H : (if t281 < t291 then (if t290 < t282 then (some false) else (laws_FnConsistencyCovers.l1 k5 a0 a1 t277 x7_3 x7_6 t270 (t270.length : Int) x38_3 y284 (y284.length : Int) (wrap64 (x84_5 + 1)) t270 t273 t274 t275 t276 t281 t282)) else (laws_FnConsistencyCovers.l1 k5 a0 a1 t277 x7_3 x7_6 t270 (t270.length : Int) x38_3 y284 (y284.length : Int) (wrap64 (x84_5 + 1)) t270 t273 t274 t275 t276 t281 t282)) = some r := H
                                          have A70 := Aside0.mk A700
                                          clear A700
                                          by_cases c71 : t281 < t291
                                          · rw [if_pos c71] at H
                                            have c71b0 : decide (t281 < t291) = true := decide_eq_true c71
                                            clear c71
                                            by_cases c72 : t290 < t282
                                            · rw [if_pos c72] at H
                                              have c72b0 : decide (t290 < t282) = true := decide_eq_true c72
                                              clear c72
                                              obtain rfl := Option.some.inj H
                                              have p288 : 0 ≤ (x84_5 : Int) := of_decide_eq_true (by first | (with_reducible assumption) | assumption)
                                              have q288 : x84_5 < (y284.length : Int) := of_decide_eq_true (by first | (with_reducible assumption) | assumption)
                                              obtain ⟨ad288, e288, hx288_0, hx288_1⟩ := at_T70 HR287.out x84_5 p288 q288
                                              obtain rfl : ad279 = ad288 := (by injection e288)
                                              (try replace hx288_0 := (HB.out.cell (World.block_lt_of_cell? w _ hx288_0)).trans hx288_0)
                                              (try replace hx288_1 := (HB.out.cell (World.block_lt_of_cell? w _ hx288_1)).trans hx288_1)
                                              replace p288 := eq_true p288
                                              replace q288 := eq_true q288
                                              go_wp2_with (first | ((with_reducible refine gate_dst (N := 13) rfl ?_); refine box_event ?hg (N := 13) ?hd (cs := #[.int .u64 0, .int .u64 0]) (t := 70) ?hr ?_; (case hd => rfl); (case hg => rfl); (case hr => first | (go_simp; done) | (go_simp; rfl)); intro gb289 hg w73 hbox hb; have n0_ := Aside0.mk (Kd.R_below (Kd.R_elderB (by (with_reducible repeat (first | apply Kd.R_alloc | apply Kd.R_drewN | apply Kd.R_drew)); exact HO_36.out) gb289 (Nat.le_of_eq hg.symm)) hb); have n1_ := Aside0.mk (Kd.R_below (Kd.R_elderB (by (with_reducible repeat (first | apply Kd.R_alloc | apply Kd.R_drewN | apply Kd.R_drew)); exact HO_279000.out) gb289 (Nat.le_of_eq hg.symm)) hb); have n2_ := Aside0.mk (blk_below (g := gb278) (o := .cells #[.slice (some ad279) t270.length co10, .int .u64 t273, .int .u64 t274, .int .i64 t275, .int .i64 t276] 72 (0, 0)) (by (with_reducible repeat (first | refine blk_drewN ?_ _ | refine blk_drew ?_ | refine blk_alloc ?_ _)); exact BK278.out) hb); have n3_ := Aside0.mk (blk_below (g := gb280) (o := .cells #[.int .u64 ((rd_T70 t270 x38_3).f0), .int .u64 ((rd_T70 t270 x38_3).f1)] 70 (0, 0)) (by (with_reducible repeat (first | refine blk_drewN ?_ _ | refine blk_drew ?_ | refine blk_alloc ?_ _)); exact BK280.out) hb); have n4_ := Aside0.mk (blk_below (g := gb283) (o := .cells #[.int .u64 t281, .int .u64 t282] 34 (0, 0)) (by (with_reducible repeat (first | refine blk_drewN ?_ _ | refine blk_drew ?_ | refine blk_alloc ?_ _)); exact BK283.out) hb); have n5_ := Aside0.mk (Kd.C_below (by repeat (first | (with_reducible exact HR287.out) | (with_reducible refine Kd.C_alloc ?_ _) | (with_reducible refine Kd.C_drewN ?_ _) | (with_reducible refine Kd.C_drew ?_) | exact HR287.out)) hb); have n6_ := Aside0.mk (below_step (by repeat (first | (with_reducible first | exact HB.out | apply below_alloc | apply pw_below_drewN | apply below_drew1 | refine below_set ?_ GE278.out | refine below_set ?_ GE280.out | refine below_set ?_ GE283.out) | exact HB.out)) hb); have n7_ := Aside0.mk (hbox); have n8_ := Aside0.mk ((by rw [hg]; exact (below_size (by repeat (first | (with_reducible first | exact HB.out | apply below_alloc | apply pw_below_drewN | apply below_drew1 | refine below_set ?_ GE278.out | refine below_set ?_ GE280.out | refine below_set ?_ GE283.out) | exact HB.out))) : w.heap.size ≤ gb289)); have n9_ := Aside0.mk ((by rw [hg]; exact (below_size (by repeat (first | (with_reducible first | exact HB.out | apply below_alloc | apply pw_below_drewN | apply below_drew1 | refine below_set ?_ GE278.out | refine below_set ?_ GE280.out | refine below_set ?_ GE283.out) | exact HB.out))) : w.heap.size ≤ gb289)); have n10_ := Aside0.mk ((by rw [hg]; exact Nat.ne_of_lt (blk_lt (g := gb278) (o := .cells #[.slice (some ad279) t270.length co10, .int .u64 t273, .int .u64 t274, .int .i64 t275, .int .i64 t276] 72 (0, 0)) (by (with_reducible repeat (first | refine blk_drewN ?_ _ | refine blk_drew ?_ | refine blk_alloc ?_ _)); exact BK278.out)) : gb278 ≠ gb289)); have n11_ := Aside0.mk ((by rw [hg]; exact Nat.ne_of_gt (blk_lt (g := gb278) (o := .cells #[.slice (some ad279) t270.length co10, .int .u64 t273, .int .u64 t274, .int .i64 t275, .int .i64 t276] 72 (0, 0)) (by (with_reducible repeat (first | refine blk_drewN ?_ _ | refine blk_drew ?_ | refine blk_alloc ?_ _)); exact BK278.out)) : gb289 ≠ gb278)); have n12_ := Aside0.mk ((by rw [hg]; exact Nat.ne_of_lt (blk_lt (g := gb280) (o := .cells #[.int .u64 ((rd_T70 t270 x38_3).f0), .int .u64 ((rd_T70 t270 x38_3).f1)] 70 (0, 0)) (by (with_reducible repeat (first | refine blk_drewN ?_ _ | refine blk_drew ?_ | refine blk_alloc ?_ _)); exact BK280.out)) : gb280 ≠ gb289)); have n13_ := Aside0.mk ((by rw [hg]; exact Nat.ne_of_gt (blk_lt (g := gb280) (o := .cells #[.int .u64 ((rd_T70 t270 x38_3).f0), .int .u64 ((rd_T70 t270 x38_3).f1)] 70 (0, 0)) (by (with_reducible repeat (first | refine blk_drewN ?_ _ | refine blk_drew ?_ | refine blk_alloc ?_ _)); exact BK280.out)) : gb289 ≠ gb280)); have n14_ := Aside0.mk ((by rw [hg]; exact Nat.ne_of_lt (blk_lt (g := gb283) (o := .cells #[.int .u64 t281, .int .u64 t282] 34 (0, 0)) (by (with_reducible repeat (first | refine blk_drewN ?_ _ | refine blk_drew ?_ | refine blk_alloc ?_ _)); exact BK283.out)) : gb283 ≠ gb289)); have n15_ := Aside0.mk ((by rw [hg]; exact Nat.ne_of_gt (blk_lt (g := gb283) (o := .cells #[.int .u64 t281, .int .u64 t282] 34 (0, 0)) (by (with_reducible repeat (first | refine blk_drewN ?_ _ | refine blk_drew ?_ | refine blk_alloc ?_ _)); exact BK283.out)) : gb289 ≠ gb283)); clear HO_36; clear HO_279000; clear BK278; clear BK280; clear BK283; clear HR287; clear HB; have HO_36 := n0_; have HO_279000 := n1_; have BK278 := n2_; have BK280 := n3_; have BK283 := n4_; have HR287 := n5_; have HB := n6_; have BK289 := n7_; have GW289 := n8_; have GE289 := n9_; have NB278_289 := n10_; have NB289_278 := n11_; have NB280_289 := n12_; have NB289_280 := n13_; have NB283_289 := n14_; have NB289_283 := n15_; clear n0_ n1_ n2_ n3_ n4_ n5_ n6_ n7_ n8_ n9_ n10_ n11_ n12_ n13_ n14_ n15_; clear hb hbox hg; have hnb74 := NB289_278.out; have hnc74 := NB278_289.out; have hnb75 := NB289_280.out; have hnc75 := NB280_289.out; have hnb76 := NB289_283.out; have hnc76 := NB283_289.out; have hcz77_0 : w73.cell? ⟨gb289, 0, none⟩ = some (.int .u64 0) := (blk_cell BK289.out 0).trans rfl; have hcz77_1 : w73.cell? ⟨gb289, 1, none⟩ = some (.int .u64 0) := (blk_cell BK289.out 1).trans rfl; have hfz77_0 := blk_frozen BK289.out 0; have hfz77_1 := blk_frozen BK289.out 1) | ((with_reducible refine gate_callee (f := 41) rfl ?_); refine goesL_ (some 89) rfl rfl Tryd.func41 (by kernel_rfl) rfl #[.agg #[.int .u64 ((rd_T70 y284 x84_5).f0), .int .u64 ((rd_T70 y284 x84_5).f1)]] rfl (by (try simp only [List.map_toArray, List.map_cons, List.map_nil]); first | done | rfl | (simp only [List.length_drop, List.length_take]; rfl)) ?_; (with_reducible refine (spec_Leaves.calls ((rd_T70 y284 x84_5).f0) ((rd_T70 y284 x84_5).f1) t290 t291 _ A70.out).mono ?_); rintro e w78 ⟨rfl, hb⟩; refine ⟨_, rfl, ?_⟩; have n0_ := Aside0.mk (Kd.R_below (by (with_reducible repeat (first | apply Kd.R_alloc | apply Kd.R_drewN | apply Kd.R_drew)); exact (Kd.R_mono (Kd.R_far (p := ⟨gb289, 1, none⟩) (Kd.R_far (p := ⟨gb289, 0, none⟩) (Kd.R_mono HO_36.out (fun k_ hk => (⟨hk, hk.2⟩ : _ ∧ k_ ≠ gb289))) (fun _ hk => hk.2) (.int .u64 ((rd_T70 y284 x84_5).f0))) (fun _ hk => hk.2) (.int .u64 ((rd_T70 y284 x84_5).f1))) (fun _ h_ => h_.1))) hb); have n1_ := Aside0.mk (Kd.R_below (by (with_reducible repeat (first | apply Kd.R_alloc | apply Kd.R_drewN | apply Kd.R_drew)); exact (Kd.R_mono (Kd.R_far (p := ⟨gb289, 1, none⟩) (Kd.R_far (p := ⟨gb289, 0, none⟩) (Kd.R_mono HO_279000.out (fun k_ hk => (⟨hk, hk.2⟩ : _ ∧ k_ ≠ gb289))) (fun _ hk => hk.2) (.int .u64 ((rd_T70 y284 x84_5).f0))) (fun _ hk => hk.2) (.int .u64 ((rd_T70 y284 x84_5).f1))) (fun _ h_ => h_.1))) hb); have n2_ := Aside0.mk (blk_below (g := gb278) (o := .cells #[.slice (some ad279) t270.length co10, .int .u64 t273, .int .u64 t274, .int .i64 t275, .int .i64 t276] 72 (0, 0)) (by (with_reducible repeat (first | refine blk_drewN ?_ _ | refine blk_drew ?_ | refine blk_alloc ?_ _)); refine blk_far ?_ NB278_289.out _; (with_reducible repeat (first | refine blk_drewN ?_ _ | refine blk_drew ?_ | refine blk_alloc ?_ _)); refine blk_far ?_ NB278_289.out _; (with_reducible repeat (first | refine blk_drewN ?_ _ | refine blk_drew ?_ | refine blk_alloc ?_ _)); exact BK278.out) hb); have n3_ := Aside0.mk (blk_below (g := gb280) (o := .cells #[.int .u64 ((rd_T70 t270 x38_3).f0), .int .u64 ((rd_T70 t270 x38_3).f1)] 70 (0, 0)) (by (with_reducible repeat (first | refine blk_drewN ?_ _ | refine blk_drew ?_ | refine blk_alloc ?_ _)); refine blk_far ?_ NB280_289.out _; (with_reducible repeat (first | refine blk_drewN ?_ _ | refine blk_drew ?_ | refine blk_alloc ?_ _)); refine blk_far ?_ NB280_289.out _; (with_reducible repeat (first | refine blk_drewN ?_ _ | refine blk_drew ?_ | refine blk_alloc ?_ _)); exact BK280.out) hb); have n4_ := Aside0.mk (blk_below (g := gb283) (o := .cells #[.int .u64 t281, .int .u64 t282] 34 (0, 0)) (by (with_reducible repeat (first | refine blk_drewN ?_ _ | refine blk_drew ?_ | refine blk_alloc ?_ _)); refine blk_far ?_ NB283_289.out _; (with_reducible repeat (first | refine blk_drewN ?_ _ | refine blk_drew ?_ | refine blk_alloc ?_ _)); refine blk_far ?_ NB283_289.out _; (with_reducible repeat (first | refine blk_drewN ?_ _ | refine blk_drew ?_ | refine blk_alloc ?_ _)); exact BK283.out) hb); have n5_ := Aside0.mk (Kd.C_below ((show Kd.C k70 _ (some ad279) y284.length y284 from by have h_ := Kd.C_take (m := (x38_3 : Int).toNat) ((Kd.R_reads' ((Kd.R_far (p := ⟨gb289, 1, none⟩) (Kd.R_far (p := ⟨gb289, 0, none⟩) (Kd.R_mono HO_279000.out (fun k_ hk => (⟨hk, hk.2⟩ : _ ∧ k_ ≠ gb289))) (fun _ hk => hk.2) (.int .u64 ((rd_T70 y284 x84_5).f0))) (fun _ hk => hk.2) (.int .u64 ((rd_T70 y284 x84_5).f1))))).2.2) KL66.out; rw [← Ny284.out] at h_; exact h_)) hb); have n6_ := Aside0.mk (blk_below (g := gb289) (o := .cells #[.int .u64 ((rd_T70 y284 x84_5).f0), .int .u64 ((rd_T70 y284 x84_5).f1)] 70 (0, 0)) (by (with_reducible repeat (first | refine blk_drewN ?_ _ | refine blk_drew ?_ | refine blk_alloc ?_ _)); refine blk_put (cs := #[.int .u64 ((rd_T70 y284 x84_5).f0), .int .u64 0]) ?_ 1 _ rfl; (with_reducible repeat (first | refine blk_drewN ?_ _ | refine blk_drew ?_ | refine blk_alloc ?_ _)); refine blk_put (cs := #[.int .u64 0, .int .u64 0]) ?_ 0 _ rfl; (with_reducible repeat (first | refine blk_drewN ?_ _ | refine blk_drew ?_ | refine blk_alloc ?_ _)); exact BK289.out) hb); have n7_ := Aside0.mk (below_step (by repeat (first | (with_reducible first | exact HB.out | apply below_alloc | apply pw_below_drewN | apply below_drew1 | refine below_set ?_ GE278.out | refine below_set ?_ GE280.out | refine below_set ?_ GE283.out | refine below_set ?_ GE289.out) | exact HB.out)) hb); clear HO_36; clear HO_279000; clear BK278; clear BK280; clear BK283; clear HR287; clear BK289; clear HB; have HO_36 := n0_; have HO_279000 := n1_; have BK278 := n2_; have BK280 := n3_; have BK283 := n4_; have HR287 := n5_; have BK289 := n6_; have HB := n7_; clear n0_ n1_ n2_ n3_ n4_ n5_ n6_ n7_; (try clear hb); (try clear hb2); (try clear hk); (try clear hi)) | ((with_reducible refine gate_dst (N := 14) rfl ?_); refine box_event ?hg (N := 14) ?hd (cs := #[.int .u64 0, .int .u64 0]) (t := 34) ?hr ?_; (case hd => rfl); (case hg => rfl); (case hr => first | (go_simp; done) | (go_simp; rfl)); intro gb292 hg w79 hbox hb; have n0_ := Aside0.mk (Kd.R_below (by (with_reducible repeat (first | apply Kd.R_alloc | apply Kd.R_drewN | apply Kd.R_drew)); exact HO_36.out) hb); have n1_ := Aside0.mk (Kd.R_below (by (with_reducible repeat (first | apply Kd.R_alloc | apply Kd.R_drewN | apply Kd.R_drew)); exact HO_279000.out) hb); have n2_ := Aside0.mk (blk_below (g := gb278) (o := .cells #[.slice (some ad279) t270.length co10, .int .u64 t273, .int .u64 t274, .int .i64 t275, .int .i64 t276] 72 (0, 0)) (by (with_reducible repeat (first | refine blk_drewN ?_ _ | refine blk_drew ?_ | refine blk_alloc ?_ _)); exact BK278.out) hb); have n3_ := Aside0.mk (blk_below (g := gb280) (o := .cells #[.int .u64 ((rd_T70 t270 x38_3).f0), .int .u64 ((rd_T70 t270 x38_3).f1)] 70 (0, 0)) (by (with_reducible repeat (first | refine blk_drewN ?_ _ | refine blk_drew ?_ | refine blk_alloc ?_ _)); exact BK280.out) hb); have n4_ := Aside0.mk (blk_below (g := gb283) (o := .cells #[.int .u64 t281, .int .u64 t282] 34 (0, 0)) (by (with_reducible repeat (first | refine blk_drewN ?_ _ | refine blk_drew ?_ | refine blk_alloc ?_ _)); exact BK283.out) hb); have n5_ := Aside0.mk (Kd.C_below (by repeat (first | (with_reducible exact HR287.out) | (with_reducible refine Kd.C_alloc ?_ _) | (with_reducible refine Kd.C_drewN ?_ _) | (with_reducible refine Kd.C_drew ?_) | exact HR287.out)) hb); have n6_ := Aside0.mk (blk_below (g := gb289) (o := .cells #[.int .u64 ((rd_T70 y284 x84_5).f0), .int .u64 ((rd_T70 y284 x84_5).f1)] 70 (0, 0)) (by (with_reducible repeat (first | refine blk_drewN ?_ _ | refine blk_drew ?_ | refine blk_alloc ?_ _)); exact BK289.out) hb); have n7_ := Aside0.mk (below_step (by repeat (first | (with_reducible first | exact HB.out | apply below_alloc | apply pw_below_drewN | apply below_drew1 | refine below_set ?_ GE278.out | refine below_set ?_ GE280.out | refine below_set ?_ GE283.out | refine below_set ?_ GE289.out) | exact HB.out)) hb); have n8_ := Aside0.mk (hbox); have n9_ := Aside0.mk ((by rw [hg]; exact (below_size (by repeat (first | (with_reducible first | exact HB.out | apply below_alloc | apply pw_below_drewN | apply below_drew1 | refine below_set ?_ GE278.out | refine below_set ?_ GE280.out | refine below_set ?_ GE283.out | refine below_set ?_ GE289.out) | exact HB.out))) : w.heap.size ≤ gb292)); have n10_ := Aside0.mk ((by rw [hg]; exact (below_size (by repeat (first | (with_reducible first | exact HB.out | apply below_alloc | apply pw_below_drewN | apply below_drew1 | refine below_set ?_ GE278.out | refine below_set ?_ GE280.out | refine below_set ?_ GE283.out | refine below_set ?_ GE289.out) | exact HB.out))) : w.heap.size ≤ gb292)); have n11_ := Aside0.mk ((by rw [hg]; exact Nat.ne_of_lt (blk_lt (g := gb278) (o := .cells #[.slice (some ad279) t270.length co10, .int .u64 t273, .int .u64 t274, .int .i64 t275, .int .i64 t276] 72 (0, 0)) (by (with_reducible repeat (first | refine blk_drewN ?_ _ | refine blk_drew ?_ | refine blk_alloc ?_ _)); exact BK278.out)) : gb278 ≠ gb292)); have n12_ := Aside0.mk ((by rw [hg]; exact Nat.ne_of_gt (blk_lt (g := gb278) (o := .cells #[.slice (some ad279) t270.length co10, .int .u64 t273, .int .u64 t274, .int .i64 t275, .int .i64 t276] 72 (0, 0)) (by (with_reducible repeat (first | refine blk_drewN ?_ _ | refine blk_drew ?_ | refine blk_alloc ?_ _)); exact BK278.out)) : gb292 ≠ gb278)); have n13_ := Aside0.mk ((by rw [hg]; exact Nat.ne_of_lt (blk_lt (g := gb280) (o := .cells #[.int .u64 ((rd_T70 t270 x38_3).f0), .int .u64 ((rd_T70 t270 x38_3).f1)] 70 (0, 0)) (by (with_reducible repeat (first | refine blk_drewN ?_ _ | refine blk_drew ?_ | refine blk_alloc ?_ _)); exact BK280.out)) : gb280 ≠ gb292)); have n14_ := Aside0.mk ((by rw [hg]; exact Nat.ne_of_gt (blk_lt (g := gb280) (o := .cells #[.int .u64 ((rd_T70 t270 x38_3).f0), .int .u64 ((rd_T70 t270 x38_3).f1)] 70 (0, 0)) (by (with_reducible repeat (first | refine blk_drewN ?_ _ | refine blk_drew ?_ | refine blk_alloc ?_ _)); exact BK280.out)) : gb292 ≠ gb280)); have n15_ := Aside0.mk ((by rw [hg]; exact Nat.ne_of_lt (blk_lt (g := gb283) (o := .cells #[.int .u64 t281, .int .u64 t282] 34 (0, 0)) (by (with_reducible repeat (first | refine blk_drewN ?_ _ | refine blk_drew ?_ | refine blk_alloc ?_ _)); exact BK283.out)) : gb283 ≠ gb292)); have n16_ := Aside0.mk ((by rw [hg]; exact Nat.ne_of_gt (blk_lt (g := gb283) (o := .cells #[.int .u64 t281, .int .u64 t282] 34 (0, 0)) (by (with_reducible repeat (first | refine blk_drewN ?_ _ | refine blk_drew ?_ | refine blk_alloc ?_ _)); exact BK283.out)) : gb292 ≠ gb283)); have n17_ := Aside0.mk ((by rw [hg]; exact Nat.ne_of_lt (blk_lt (g := gb289) (o := .cells #[.int .u64 ((rd_T70 y284 x84_5).f0), .int .u64 ((rd_T70 y284 x84_5).f1)] 70 (0, 0)) (by (with_reducible repeat (first | refine blk_drewN ?_ _ | refine blk_drew ?_ | refine blk_alloc ?_ _)); exact BK289.out)) : gb289 ≠ gb292)); have n18_ := Aside0.mk ((by rw [hg]; exact Nat.ne_of_gt (blk_lt (g := gb289) (o := .cells #[.int .u64 ((rd_T70 y284 x84_5).f0), .int .u64 ((rd_T70 y284 x84_5).f1)] 70 (0, 0)) (by (with_reducible repeat (first | refine blk_drewN ?_ _ | refine blk_drew ?_ | refine blk_alloc ?_ _)); exact BK289.out)) : gb292 ≠ gb289)); clear HO_36; clear HO_279000; clear BK278; clear BK280; clear BK283; clear HR287; clear BK289; clear HB; have HO_36 := n0_; have HO_279000 := n1_; have BK278 := n2_; have BK280 := n3_; have BK283 := n4_; have HR287 := n5_; have BK289 := n6_; have HB := n7_; have BK292 := n8_; have GW292 := n9_; have GE292 := n10_; have NB278_292 := n11_; have NB292_278 := n12_; have NB280_292 := n13_; have NB292_280 := n14_; have NB283_292 := n15_; have NB292_283 := n16_; have NB289_292 := n17_; have NB292_289 := n18_; clear n0_ n1_ n2_ n3_ n4_ n5_ n6_ n7_ n8_ n9_ n10_ n11_ n12_ n13_ n14_ n15_ n16_ n17_ n18_; clear hb hbox hg; have hnb80 := NB292_278.out; have hnc80 := NB278_292.out; have hnb81 := NB292_280.out; have hnc81 := NB280_292.out; have hnb82 := NB292_283.out; have hnc82 := NB283_292.out; have hnb83 := NB292_289.out; have hnc83 := NB289_292.out; have hcz84_0 : w79.cell? ⟨gb292, 0, none⟩ = some (.int .u64 0) := (blk_cell BK292.out 0).trans rfl; have hcz84_1 : w79.cell? ⟨gb292, 1, none⟩ = some (.int .u64 0) := (blk_cell BK292.out 1).trans rfl; have hfz84_0 := blk_frozen BK292.out 0; have hfz84_1 := blk_frozen BK292.out 1; have hnb85 := NB283_278.out; have hnc85 := NB278_283.out; have hnb86 := NB283_280.out; have hnc86 := NB280_283.out; have hcz87_0 : w79.cell? ⟨gb283, 0, none⟩ = some (.int .u64 t281) := (blk_cell BK283.out 0).trans rfl; have hcz87_1 : w79.cell? ⟨gb283, 1, none⟩ = some (.int .u64 t282) := (blk_cell BK283.out 1).trans rfl; have hfz87_0 := blk_frozen BK283.out 0; have hfz87_1 := blk_frozen BK283.out 1))
                                              go_ret
                                              exact ⟨by first | rfl | (simp [errW_none, errW_some] <;> rfl) | (simp [*, errW_none, errW_some] <;> rfl), by repeat (first | (with_reducible first | exact HB.out | apply below_alloc | apply pw_below_drewN | apply below_drew1 | refine below_set ?_ GE278.out | refine below_set ?_ GE280.out | refine below_set ?_ GE283.out | refine below_set ?_ GE289.out | refine below_set ?_ GE292.out) | exact HB.out)⟩
                                            · rw [if_neg c72] at H
                                              have c72b0 : decide (t290 < t282) = false := decide_eq_false c72
                                              clear c72
                                              have H' := Aside0.mk H
                                              clear H
                                              have p288 : 0 ≤ (x84_5 : Int) := of_decide_eq_true (by first | (with_reducible assumption) | assumption)
                                              have q288 : x84_5 < (y284.length : Int) := of_decide_eq_true (by first | (with_reducible assumption) | assumption)
                                              obtain ⟨ad288, e288, hx288_0, hx288_1⟩ := at_T70 HR287.out x84_5 p288 q288
                                              obtain rfl : ad279 = ad288 := (by injection e288)
                                              (try replace hx288_0 := (HB.out.cell (World.block_lt_of_cell? w _ hx288_0)).trans hx288_0)
                                              (try replace hx288_1 := (HB.out.cell (World.block_lt_of_cell? w _ hx288_1)).trans hx288_1)
                                              replace p288 := eq_true p288
                                              replace q288 := eq_true q288
                                              go_wp2_with (first | ((with_reducible refine gate_dst (N := 13) rfl ?_); refine box_event ?hg (N := 13) ?hd (cs := #[.int .u64 0, .int .u64 0]) (t := 70) ?hr ?_; (case hd => rfl); (case hg => rfl); (case hr => first | (go_simp; done) | (go_simp; rfl)); intro gb289 hg w88 hbox hb; have n0_ := Aside0.mk (Kd.R_below (Kd.R_elderB (by (with_reducible repeat (first | apply Kd.R_alloc | apply Kd.R_drewN | apply Kd.R_drew)); exact HO_36.out) gb289 (Nat.le_of_eq hg.symm)) hb); have n1_ := Aside0.mk (Kd.R_below (Kd.R_elderB (by (with_reducible repeat (first | apply Kd.R_alloc | apply Kd.R_drewN | apply Kd.R_drew)); exact HO_279000.out) gb289 (Nat.le_of_eq hg.symm)) hb); have n2_ := Aside0.mk (blk_below (g := gb278) (o := .cells #[.slice (some ad279) t270.length co10, .int .u64 t273, .int .u64 t274, .int .i64 t275, .int .i64 t276] 72 (0, 0)) (by (with_reducible repeat (first | refine blk_drewN ?_ _ | refine blk_drew ?_ | refine blk_alloc ?_ _)); exact BK278.out) hb); have n3_ := Aside0.mk (blk_below (g := gb280) (o := .cells #[.int .u64 ((rd_T70 t270 x38_3).f0), .int .u64 ((rd_T70 t270 x38_3).f1)] 70 (0, 0)) (by (with_reducible repeat (first | refine blk_drewN ?_ _ | refine blk_drew ?_ | refine blk_alloc ?_ _)); exact BK280.out) hb); have n4_ := Aside0.mk (blk_below (g := gb283) (o := .cells #[.int .u64 t281, .int .u64 t282] 34 (0, 0)) (by (with_reducible repeat (first | refine blk_drewN ?_ _ | refine blk_drew ?_ | refine blk_alloc ?_ _)); exact BK283.out) hb); have n5_ := Aside0.mk (Kd.C_below (by repeat (first | (with_reducible exact HR287.out) | (with_reducible refine Kd.C_alloc ?_ _) | (with_reducible refine Kd.C_drewN ?_ _) | (with_reducible refine Kd.C_drew ?_) | exact HR287.out)) hb); have n6_ := Aside0.mk (below_step (by repeat (first | (with_reducible first | exact HB.out | apply below_alloc | apply pw_below_drewN | apply below_drew1 | refine below_set ?_ GE278.out | refine below_set ?_ GE280.out | refine below_set ?_ GE283.out) | exact HB.out)) hb); have n7_ := Aside0.mk (hbox); have n8_ := Aside0.mk ((by rw [hg]; exact (below_size (by repeat (first | (with_reducible first | exact HB.out | apply below_alloc | apply pw_below_drewN | apply below_drew1 | refine below_set ?_ GE278.out | refine below_set ?_ GE280.out | refine below_set ?_ GE283.out) | exact HB.out))) : w.heap.size ≤ gb289)); have n9_ := Aside0.mk ((by rw [hg]; exact (below_size (by repeat (first | (with_reducible first | exact HB.out | apply below_alloc | apply pw_below_drewN | apply below_drew1 | refine below_set ?_ GE278.out | refine below_set ?_ GE280.out | refine below_set ?_ GE283.out) | exact HB.out))) : w.heap.size ≤ gb289)); have n10_ := Aside0.mk ((by rw [hg]; exact Nat.ne_of_lt (blk_lt (g := gb278) (o := .cells #[.slice (some ad279) t270.length co10, .int .u64 t273, .int .u64 t274, .int .i64 t275, .int .i64 t276] 72 (0, 0)) (by (with_reducible repeat (first | refine blk_drewN ?_ _ | refine blk_drew ?_ | refine blk_alloc ?_ _)); exact BK278.out)) : gb278 ≠ gb289)); have n11_ := Aside0.mk ((by rw [hg]; exact Nat.ne_of_gt (blk_lt (g := gb278) (o := .cells #[.slice (some ad279) t270.length co10, .int .u64 t273, .int .u64 t274, .int .i64 t275, .int .i64 t276] 72 (0, 0)) (by (with_reducible repeat (first | refine blk_drewN ?_ _ | refine blk_drew ?_ | refine blk_alloc ?_ _)); exact BK278.out)) : gb289 ≠ gb278)); have n12_ := Aside0.mk ((by rw [hg]; exact Nat.ne_of_lt (blk_lt (g := gb280) (o := .cells #[.int .u64 ((rd_T70 t270 x38_3).f0), .int .u64 ((rd_T70 t270 x38_3).f1)] 70 (0, 0)) (by (with_reducible repeat (first | refine blk_drewN ?_ _ | refine blk_drew ?_ | refine blk_alloc ?_ _)); exact BK280.out)) : gb280 ≠ gb289)); have n13_ := Aside0.mk ((by rw [hg]; exact Nat.ne_of_gt (blk_lt (g := gb280) (o := .cells #[.int .u64 ((rd_T70 t270 x38_3).f0), .int .u64 ((rd_T70 t270 x38_3).f1)] 70 (0, 0)) (by (with_reducible repeat (first | refine blk_drewN ?_ _ | refine blk_drew ?_ | refine blk_alloc ?_ _)); exact BK280.out)) : gb289 ≠ gb280)); have n14_ := Aside0.mk ((by rw [hg]; exact Nat.ne_of_lt (blk_lt (g := gb283) (o := .cells #[.int .u64 t281, .int .u64 t282] 34 (0, 0)) (by (with_reducible repeat (first | refine blk_drewN ?_ _ | refine blk_drew ?_ | refine blk_alloc ?_ _)); exact BK283.out)) : gb283 ≠ gb289)); have n15_ := Aside0.mk ((by rw [hg]; exact Nat.ne_of_gt (blk_lt (g := gb283) (o := .cells #[.int .u64 t281, .int .u64 t282] 34 (0, 0)) (by (with_reducible repeat (first | refine blk_drewN ?_ _ | refine blk_drew ?_ | refine blk_alloc ?_ _)); exact BK283.out)) : gb289 ≠ gb283)); clear HO_36; clear HO_279000; clear BK278; clear BK280; clear BK283; clear HR287; clear HB; have HO_36 := n0_; have HO_279000 := n1_; have BK278 := n2_; have BK280 := n3_; have BK283 := n4_; have HR287 := n5_; have HB := n6_; have BK289 := n7_; have GW289 := n8_; have GE289 := n9_; have NB278_289 := n10_; have NB289_278 := n11_; have NB280_289 := n12_; have NB289_280 := n13_; have NB283_289 := n14_; have NB289_283 := n15_; clear n0_ n1_ n2_ n3_ n4_ n5_ n6_ n7_ n8_ n9_ n10_ n11_ n12_ n13_ n14_ n15_; clear hb hbox hg; have hnb89 := NB289_278.out; have hnc89 := NB278_289.out; have hnb90 := NB289_280.out; have hnc90 := NB280_289.out; have hnb91 := NB289_283.out; have hnc91 := NB283_289.out; have hcz92_0 : w88.cell? ⟨gb289, 0, none⟩ = some (.int .u64 0) := (blk_cell BK289.out 0).trans rfl; have hcz92_1 : w88.cell? ⟨gb289, 1, none⟩ = some (.int .u64 0) := (blk_cell BK289.out 1).trans rfl; have hfz92_0 := blk_frozen BK289.out 0; have hfz92_1 := blk_frozen BK289.out 1) | ((with_reducible refine gate_callee (f := 41) rfl ?_); refine goesL_ (some 89) rfl rfl Tryd.func41 (by kernel_rfl) rfl #[.agg #[.int .u64 ((rd_T70 y284 x84_5).f0), .int .u64 ((rd_T70 y284 x84_5).f1)]] rfl (by (try simp only [List.map_toArray, List.map_cons, List.map_nil]); first | done | rfl | (simp only [List.length_drop, List.length_take]; rfl)) ?_; (with_reducible refine (spec_Leaves.calls ((rd_T70 y284 x84_5).f0) ((rd_T70 y284 x84_5).f1) t290 t291 _ A70.out).mono ?_); rintro e w93 ⟨rfl, hb⟩; refine ⟨_, rfl, ?_⟩; have n0_ := Aside0.mk (Kd.R_below (by (with_reducible repeat (first | apply Kd.R_alloc | apply Kd.R_drewN | apply Kd.R_drew)); exact (Kd.R_mono (Kd.R_far (p := ⟨gb289, 1, none⟩) (Kd.R_far (p := ⟨gb289, 0, none⟩) (Kd.R_mono HO_36.out (fun k_ hk => (⟨hk, hk.2⟩ : _ ∧ k_ ≠ gb289))) (fun _ hk => hk.2) (.int .u64 ((rd_T70 y284 x84_5).f0))) (fun _ hk => hk.2) (.int .u64 ((rd_T70 y284 x84_5).f1))) (fun _ h_ => h_.1))) hb); have n1_ := Aside0.mk (Kd.R_below (by (with_reducible repeat (first | apply Kd.R_alloc | apply Kd.R_drewN | apply Kd.R_drew)); exact (Kd.R_mono (Kd.R_far (p := ⟨gb289, 1, none⟩) (Kd.R_far (p := ⟨gb289, 0, none⟩) (Kd.R_mono HO_279000.out (fun k_ hk => (⟨hk, hk.2⟩ : _ ∧ k_ ≠ gb289))) (fun _ hk => hk.2) (.int .u64 ((rd_T70 y284 x84_5).f0))) (fun _ hk => hk.2) (.int .u64 ((rd_T70 y284 x84_5).f1))) (fun _ h_ => h_.1))) hb); have n2_ := Aside0.mk (blk_below (g := gb278) (o := .cells #[.slice (some ad279) t270.length co10, .int .u64 t273, .int .u64 t274, .int .i64 t275, .int .i64 t276] 72 (0, 0)) (by (with_reducible repeat (first | refine blk_drewN ?_ _ | refine blk_drew ?_ | refine blk_alloc ?_ _)); refine blk_far ?_ NB278_289.out _; (with_reducible repeat (first | refine blk_drewN ?_ _ | refine blk_drew ?_ | refine blk_alloc ?_ _)); refine blk_far ?_ NB278_289.out _; (with_reducible repeat (first | refine blk_drewN ?_ _ | refine blk_drew ?_ | refine blk_alloc ?_ _)); exact BK278.out) hb); have n3_ := Aside0.mk (blk_below (g := gb280) (o := .cells #[.int .u64 ((rd_T70 t270 x38_3).f0), .int .u64 ((rd_T70 t270 x38_3).f1)] 70 (0, 0)) (by (with_reducible repeat (first | refine blk_drewN ?_ _ | refine blk_drew ?_ | refine blk_alloc ?_ _)); refine blk_far ?_ NB280_289.out _; (with_reducible repeat (first | refine blk_drewN ?_ _ | refine blk_drew ?_ | refine blk_alloc ?_ _)); refine blk_far ?_ NB280_289.out _; (with_reducible repeat (first | refine blk_drewN ?_ _ | refine blk_drew ?_ | refine blk_alloc ?_ _)); exact BK280.out) hb); have n4_ := Aside0.mk (blk_below (g := gb283) (o := .cells #[.int .u64 t281, .int .u64 t282] 34 (0, 0)) (by (with_reducible repeat (first | refine blk_drewN ?_ _ | refine blk_drew ?_ | refine blk_alloc ?_ _)); refine blk_far ?_ NB283_289.out _; (with_reducible repeat (first | refine blk_drewN ?_ _ | refine blk_drew ?_ | refine blk_alloc ?_ _)); refine blk_far ?_ NB283_289.out _; (with_reducible repeat (first | refine blk_drewN ?_ _ | refine blk_drew ?_ | refine blk_alloc ?_ _)); exact BK283.out) hb); have n5_ := Aside0.mk (Kd.C_below ((show Kd.C k70 _ (some ad279) y284.length y284 from by have h_ := Kd.C_take (m := (x38_3 : Int).toNat) ((Kd.R_reads' ((Kd.R_far (p := ⟨gb289, 1, none⟩) (Kd.R_far (p := ⟨gb289, 0, none⟩) (Kd.R_mono HO_279000.out (fun k_ hk => (⟨hk, hk.2⟩ : _ ∧ k_ ≠ gb289))) (fun _ hk => hk.2) (.int .u64 ((rd_T70 y284 x84_5).f0))) (fun _ hk => hk.2) (.int .u64 ((rd_T70 y284 x84_5).f1))))).2.2) KL66.out; rw [← Ny284.out] at h_; exact h_)) hb); have n6_ := Aside0.mk (blk_below (g := gb289) (o := .cells #[.int .u64 ((rd_T70 y284 x84_5).f0), .int .u64 ((rd_T70 y284 x84_5).f1)] 70 (0, 0)) (by (with_reducible repeat (first | refine blk_drewN ?_ _ | refine blk_drew ?_ | refine blk_alloc ?_ _)); refine blk_put (cs := #[.int .u64 ((rd_T70 y284 x84_5).f0), .int .u64 0]) ?_ 1 _ rfl; (with_reducible repeat (first | refine blk_drewN ?_ _ | refine blk_drew ?_ | refine blk_alloc ?_ _)); refine blk_put (cs := #[.int .u64 0, .int .u64 0]) ?_ 0 _ rfl; (with_reducible repeat (first | refine blk_drewN ?_ _ | refine blk_drew ?_ | refine blk_alloc ?_ _)); exact BK289.out) hb); have n7_ := Aside0.mk (below_step (by repeat (first | (with_reducible first | exact HB.out | apply below_alloc | apply pw_below_drewN | apply below_drew1 | refine below_set ?_ GE278.out | refine below_set ?_ GE280.out | refine below_set ?_ GE283.out | refine below_set ?_ GE289.out) | exact HB.out)) hb); clear HO_36; clear HO_279000; clear BK278; clear BK280; clear BK283; clear HR287; clear BK289; clear HB; have HO_36 := n0_; have HO_279000 := n1_; have BK278 := n2_; have BK280 := n3_; have BK283 := n4_; have HR287 := n5_; have BK289 := n6_; have HB := n7_; clear n0_ n1_ n2_ n3_ n4_ n5_ n6_ n7_; (try clear hb); (try clear hb2); (try clear hk); (try clear hi)) | ((with_reducible refine gate_dst (N := 14) rfl ?_); refine box_event ?hg (N := 14) ?hd (cs := #[.int .u64 0, .int .u64 0]) (t := 34) ?hr ?_; (case hd => rfl); (case hg => rfl); (case hr => first | (go_simp; done) | (go_simp; rfl)); intro gb292 hg w94 hbox hb; have n0_ := Aside0.mk (Kd.R_below (by (with_reducible repeat (first | apply Kd.R_alloc | apply Kd.R_drewN | apply Kd.R_drew)); exact HO_36.out) hb); have n1_ := Aside0.mk (Kd.R_below (by (with_reducible repeat (first | apply Kd.R_alloc | apply Kd.R_drewN | apply Kd.R_drew)); exact HO_279000.out) hb); have n2_ := Aside0.mk (blk_below (g := gb278) (o := .cells #[.slice (some ad279) t270.length co10, .int .u64 t273, .int .u64 t274, .int .i64 t275, .int .i64 t276] 72 (0, 0)) (by (with_reducible repeat (first | refine blk_drewN ?_ _ | refine blk_drew ?_ | refine blk_alloc ?_ _)); exact BK278.out) hb); have n3_ := Aside0.mk (blk_below (g := gb280) (o := .cells #[.int .u64 ((rd_T70 t270 x38_3).f0), .int .u64 ((rd_T70 t270 x38_3).f1)] 70 (0, 0)) (by (with_reducible repeat (first | refine blk_drewN ?_ _ | refine blk_drew ?_ | refine blk_alloc ?_ _)); exact BK280.out) hb); have n4_ := Aside0.mk (blk_below (g := gb283) (o := .cells #[.int .u64 t281, .int .u64 t282] 34 (0, 0)) (by (with_reducible repeat (first | refine blk_drewN ?_ _ | refine blk_drew ?_ | refine blk_alloc ?_ _)); exact BK283.out) hb); have n5_ := Aside0.mk (Kd.C_below (by repeat (first | (with_reducible exact HR287.out) | (with_reducible refine Kd.C_alloc ?_ _) | (with_reducible refine Kd.C_drewN ?_ _) | (with_reducible refine Kd.C_drew ?_) | exact HR287.out)) hb); have n6_ := Aside0.mk (blk_below (g := gb289) (o := .cells #[.int .u64 ((rd_T70 y284 x84_5).f0), .int .u64 ((rd_T70 y284 x84_5).f1)] 70 (0, 0)) (by (with_reducible repeat (first | refine blk_drewN ?_ _ | refine blk_drew ?_ | refine blk_alloc ?_ _)); exact BK289.out) hb); have n7_ := Aside0.mk (below_step (by repeat (first | (with_reducible first | exact HB.out | apply below_alloc | apply pw_below_drewN | apply below_drew1 | refine below_set ?_ GE278.out | refine below_set ?_ GE280.out | refine below_set ?_ GE283.out | refine below_set ?_ GE289.out) | exact HB.out)) hb); have n8_ := Aside0.mk (hbox); have n9_ := Aside0.mk ((by rw [hg]; exact (below_size (by repeat (first | (with_reducible first | exact HB.out | apply below_alloc | apply pw_below_drewN | apply below_drew1 | refine below_set ?_ GE278.out | refine below_set ?_ GE280.out | refine below_set ?_ GE283.out | refine below_set ?_ GE289.out) | exact HB.out))) : w.heap.size ≤ gb292)); have n10_ := Aside0.mk ((by rw [hg]; exact (below_size (by repeat (first | (with_reducible first | exact HB.out | apply below_alloc | apply pw_below_drewN | apply below_drew1 | refine below_set ?_ GE278.out | refine below_set ?_ GE280.out | refine below_set ?_ GE283.out | refine below_set ?_ GE289.out) | exact HB.out))) : w.heap.size ≤ gb292)); have n11_ := Aside0.mk ((by rw [hg]; exact Nat.ne_of_lt (blk_lt (g := gb278) (o := .cells #[.slice (some ad279) t270.length co10, .int .u64 t273, .int .u64 t274, .int .i64 t275, .int .i64 t276] 72 (0, 0)) (by (with_reducible repeat (first | refine blk_drewN ?_ _ | refine blk_drew ?_ | refine blk_alloc ?_ _)); exact BK278.out)) : gb278 ≠ gb292)); have n12_ := Aside0.mk ((by rw [hg]; exact Nat.ne_of_gt (blk_lt (g := gb278) (o := .cells #[.slice (some ad279) t270.length co10, .int .u64 t273, .int .u64 t274, .int .i64 t275, .int .i64 t276] 72 (0, 0)) (by (with_reducible repeat (first | refine blk_drewN ?_ _ | refine blk_drew ?_ | refine blk_alloc ?_ _)); exact BK278.out)) : gb292 ≠ gb278)); have n13_ := Aside0.mk ((by rw [hg]; exact Nat.ne_of_lt (blk_lt (g := gb280) (o := .cells #[.int .u64 ((rd_T70 t270 x38_3).f0), .int .u64 ((rd_T70 t270 x38_3).f1)] 70 (0, 0)) (by (with_reducible repeat (first | refine blk_drewN ?_ _ | refine blk_drew ?_ | refine blk_alloc ?_ _)); exact BK280.out)) : gb280 ≠ gb292)); have n14_ := Aside0.mk ((by rw [hg]; exact Nat.ne_of_gt (blk_lt (g := gb280) (o := .cells #[.int .u64 ((rd_T70 t270 x38_3).f0), .int .u64 ((rd_T70 t270 x38_3).f1)] 70 (0, 0)) (by (with_reducible repeat (first | refine blk_drewN ?_ _ | refine blk_drew ?_ | refine blk_alloc ?_ _)); exact BK280.out)) : gb292 ≠ gb280)); have n15_ := Aside0.mk ((by rw [hg]; exact Nat.ne_of_lt (blk_lt (g := gb283) (o := .cells #[.int .u64 t281, .int .u64 t282] 34 (0, 0)) (by (with_reducible repeat (first | refine blk_drewN ?_ _ | refine blk_drew ?_ | refine blk_alloc ?_ _)); exact BK283.out)) : gb283 ≠ gb292)); have n16_ := Aside0.mk ((by rw [hg]; exact Nat.ne_of_gt (blk_lt (g := gb283) (o := .cells #[.int .u64 t281, .int .u64 t282] 34 (0, 0)) (by (with_reducible repeat (first | refine blk_drewN ?_ _ | refine blk_drew ?_ | refine blk_alloc ?_ _)); exact BK283.out)) : gb292 ≠ gb283)); have n17_ := Aside0.mk ((by rw [hg]; exact Nat.ne_of_lt (blk_lt (g := gb289) (o := .cells #[.int .u64 ((rd_T70 y284 x84_5).f0), .int .u64 ((rd_T70 y284 x84_5).f1)] 70 (0, 0)) (by (with_reducible repeat (first | refine blk_drewN ?_ _ | refine blk_drew ?_ | refine blk_alloc ?_ _)); exact BK289.out)) : gb289 ≠ gb292)); have n18_ := Aside0.mk ((by rw [hg]; exact Nat.ne_of_gt (blk_lt (g := gb289) (o := .cells #[.int .u64 ((rd_T70 y284 x84_5).f0), .int .u64 ((rd_T70 y284 x84_5).f1)] 70 (0, 0)) (by (with_reducible repeat (first | refine blk_drewN ?_ _ | refine blk_drew ?_ | refine blk_alloc ?_ _)); exact BK289.out)) : gb292 ≠ gb289)); clear HO_36; clear HO_279000; clear BK278; clear BK280; clear BK283; clear HR287; clear BK289; clear HB; have HO_36 := n0_; have HO_279000 := n1_; have BK278 := n2_; have BK280 := n3_; have BK283 := n4_; have HR287 := n5_; have BK289 := n6_; have HB := n7_; have BK292 := n8_; have GW292 := n9_; have GE292 := n10_; have NB278_292 := n11_; have NB292_278 := n12_; have NB280_292 := n13_; have NB292_280 := n14_; have NB283_292 := n15_; have NB292_283 := n16_; have NB289_292 := n17_; have NB292_289 := n18_; clear n0_ n1_ n2_ n3_ n4_ n5_ n6_ n7_ n8_ n9_ n10_ n11_ n12_ n13_ n14_ n15_ n16_ n17_ n18_; clear hb hbox hg; have hnb95 := NB292_278.out; have hnc95 := NB278_292.out; have hnb96 := NB292_280.out; have hnc96 := NB280_292.out; have hnb97 := NB292_283.out; have hnc97 := NB283_292.out; have hnb98 := NB292_289.out; have hnc98 := NB289_292.out; have hcz99_0 : w94.cell? ⟨gb292, 0, none⟩ = some (.int .u64 0) := (blk_cell BK292.out 0).trans rfl; have hcz99_1 : w94.cell? ⟨gb292, 1, none⟩ = some (.int .u64 0) := (blk_cell BK292.out 1).trans rfl; have hfz99_0 := blk_frozen BK292.out 0; have hfz99_1 := blk_frozen BK292.out 1; have hnb100 := NB283_278.out; have hnc100 := NB278_283.out; have hnb101 := NB283_280.out; have hnc101 := NB280_283.out; have hcz102_0 : w94.cell? ⟨gb283, 0, none⟩ = some (.int .u64 t281) := (blk_cell BK283.out 0).trans rfl; have hcz102_1 : w94.cell? ⟨gb283, 1, none⟩ = some (.int .u64 t282) := (blk_cell BK283.out 1).trans rfl; have hfz102_0 := blk_frozen BK283.out 0; have hfz102_1 := blk_frozen BK283.out 1))
                                              go_roundg k5
                                              case measure => have := HJ2.out; have := HJ6.out; have := HK3.out; have := HJ17.out; have := HK5.out; omega
                                              case rel => exact ⟨(wrap64 (x84_5 + 1)), (by first | rfl | (simp; done) | (simp [*]; done)), H', ⟨by have := HJ2.out; have := HJ6.out; have := HK3.out; have := HJ17.out; have := HK5.out; omega⟩, ⟨by (with_reducible repeat (first | apply Kd.R_alloc | apply Kd.R_drewN | apply Kd.R_drew)); exact Kd.R_mono (Kd.R_far (p := ⟨gb292, 1, none⟩) (Kd.R_far (p := ⟨gb292, 0, none⟩) (Kd.R_types HO_36.out BK292.out (by decide)) (fun _ hk => hk.2) (.int .u64 t290)) (fun _ hk => hk.2) (.int .u64 t291)) (fun _ hk => hk.1.1)⟩, ⟨by (with_reducible repeat (first | apply Kd.R_alloc | apply Kd.R_drewN | apply Kd.R_drew)); exact Kd.R_mono (Kd.R_far (p := ⟨gb292, 1, none⟩) (Kd.R_far (p := ⟨gb292, 0, none⟩) (Kd.R_types HO_279000.out BK292.out (by decide)) (fun _ hk => hk.2) (.int .u64 t290)) (fun _ hk => hk.2) (.int .u64 t291)) (fun _ hk => hk.1.1)⟩, ⟨by (with_reducible repeat (first | refine blk_drewN ?_ _ | refine blk_drew ?_ | refine blk_alloc ?_ _)); refine blk_far ?_ NB278_292.out _; (with_reducible repeat (first | refine blk_drewN ?_ _ | refine blk_drew ?_ | refine blk_alloc ?_ _)); refine blk_far ?_ NB278_292.out _; (with_reducible repeat (first | refine blk_drewN ?_ _ | refine blk_drew ?_ | refine blk_alloc ?_ _)); exact BK278.out⟩, ⟨by (with_reducible repeat (first | refine blk_drewN ?_ _ | refine blk_drew ?_ | refine blk_alloc ?_ _)); refine blk_far ?_ NB280_292.out _; (with_reducible repeat (first | refine blk_drewN ?_ _ | refine blk_drew ?_ | refine blk_alloc ?_ _)); refine blk_far ?_ NB280_292.out _; (with_reducible repeat (first | refine blk_drewN ?_ _ | refine blk_drew ?_ | refine blk_alloc ?_ _)); exact BK280.out⟩, ⟨by (with_reducible repeat (first | refine blk_drewN ?_ _ | refine blk_drew ?_ | refine blk_alloc ?_ _)); refine blk_far ?_ NB283_292.out _; (with_reducible repeat (first | refine blk_drewN ?_ _ | refine blk_drew ?_ | refine blk_alloc ?_ _)); refine blk_far ?_ NB283_292.out _; (with_reducible repeat (first | refine blk_drewN ?_ _ | refine blk_drew ?_ | refine blk_alloc ?_ _)); exact BK283.out⟩, ⟨(show Kd.C k70 _ (some ad279) y284.length y284 from by have h_ := Kd.C_take (m := (x38_3 : Int).toNat) ((Kd.R_reads' ((Kd.R_far (p := ⟨gb292, 1, none⟩) (Kd.R_far (p := ⟨gb292, 0, none⟩) (Kd.R_types HO_279000.out BK292.out (by decide)) (fun _ hk => hk.2) (.int .u64 t290)) (fun _ hk => hk.2) (.int .u64 t291)))).2.2) KL66.out; rw [← Ny284.out] at h_; exact h_)⟩, ⟨by repeat (first | (with_reducible first | exact HB.out | apply below_alloc | apply pw_below_drewN | apply below_drew1 | refine below_set ?_ GE278.out | refine below_set ?_ GE280.out | refine below_set ?_ GE283.out | refine below_set ?_ GE289.out | refine below_set ?_ GE292.out) | exact HB.out)⟩⟩
                                          · rw [if_neg c71] at H
                                            have c71b0 : decide (t281 < t291) = false := decide_eq_false c71
                                            clear c71
                                            have H' := Aside0.mk H
                                            clear H
                                            have p288 : 0 ≤ (x84_5 : Int) := of_decide_eq_true (by first | (with_reducible assumption) | assumption)
                                            have q288 : x84_5 < (y284.length : Int) := of_decide_eq_true (by first | (with_reducible assumption) | assumption)
                                            obtain ⟨ad288, e288, hx288_0, hx288_1⟩ := at_T70 HR287.out x84_5 p288 q288
                                            obtain rfl : ad279 = ad288 := (by injection e288)
                                            (try replace hx288_0 := (HB.out.cell (World.block_lt_of_cell? w _ hx288_0)).trans hx288_0)
                                            (try replace hx288_1 := (HB.out.cell (World.block_lt_of_cell? w _ hx288_1)).trans hx288_1)
                                            replace p288 := eq_true p288
                                            replace q288 := eq_true q288
                                            go_wp2_with (first | ((with_reducible refine gate_dst (N := 13) rfl ?_); refine box_event ?hg (N := 13) ?hd (cs := #[.int .u64 0, .int .u64 0]) (t := 70) ?hr ?_; (case hd => rfl); (case hg => rfl); (case hr => first | (go_simp; done) | (go_simp; rfl)); intro gb289 hg w103 hbox hb; have n0_ := Aside0.mk (Kd.R_below (Kd.R_elderB (by (with_reducible repeat (first | apply Kd.R_alloc | apply Kd.R_drewN | apply Kd.R_drew)); exact HO_36.out) gb289 (Nat.le_of_eq hg.symm)) hb); have n1_ := Aside0.mk (Kd.R_below (Kd.R_elderB (by (with_reducible repeat (first | apply Kd.R_alloc | apply Kd.R_drewN | apply Kd.R_drew)); exact HO_279000.out) gb289 (Nat.le_of_eq hg.symm)) hb); have n2_ := Aside0.mk (blk_below (g := gb278) (o := .cells #[.slice (some ad279) t270.length co10, .int .u64 t273, .int .u64 t274, .int .i64 t275, .int .i64 t276] 72 (0, 0)) (by (with_reducible repeat (first | refine blk_drewN ?_ _ | refine blk_drew ?_ | refine blk_alloc ?_ _)); exact BK278.out) hb); have n3_ := Aside0.mk (blk_below (g := gb280) (o := .cells #[.int .u64 ((rd_T70 t270 x38_3).f0), .int .u64 ((rd_T70 t270 x38_3).f1)] 70 (0, 0)) (by (with_reducible repeat (first | refine blk_drewN ?_ _ | refine blk_drew ?_ | refine blk_alloc ?_ _)); exact BK280.out) hb); have n4_ := Aside0.mk (blk_below (g := gb283) (o := .cells #[.int .u64 t281, .int .u64 t282] 34 (0, 0)) (by (with_reducible repeat (first | refine blk_drewN ?_ _ | refine blk_drew ?_ | refine blk_alloc ?_ _)); exact BK283.out) hb); have n5_ := Aside0.mk (Kd.C_below (by repeat (first | (with_reducible exact HR287.out) | (with_reducible refine Kd.C_alloc ?_ _) | (with_reducible refine Kd.C_drewN ?_ _) | (with_reducible refine Kd.C_drew ?_) | exact HR287.out)) hb); have n6_ := Aside0.mk (below_step (by repeat (first | (with_reducible first | exact HB.out | apply below_alloc | apply pw_below_drewN | apply below_drew1 | refine below_set ?_ GE278.out | refine below_set ?_ GE280.out | refine below_set ?_ GE283.out) | exact HB.out)) hb); have n7_ := Aside0.mk (hbox); have n8_ := Aside0.mk ((by rw [hg]; exact (below_size (by repeat (first | (with_reducible first | exact HB.out | apply below_alloc | apply pw_below_drewN | apply below_drew1 | refine below_set ?_ GE278.out | refine below_set ?_ GE280.out | refine below_set ?_ GE283.out) | exact HB.out))) : w.heap.size ≤ gb289)); have n9_ := Aside0.mk ((by rw [hg]; exact (below_size (by repeat (first | (with_reducible first | exact HB.out | apply below_alloc | apply pw_below_drewN | apply below_drew1 | refine below_set ?_ GE278.out | refine below_set ?_ GE280.out | refine below_set ?_ GE283.out) | exact HB.out))) : w.heap.size ≤ gb289)); have n10_ := Aside0.mk ((by rw [hg]; exact Nat.ne_of_lt (blk_lt (g := gb278) (o := .cells #[.slice (some ad279) t270.length co10, .int .u64 t273, .int .u64 t274, .int .i64 t275, .int .i64 t276] 72 (0, 0)) (by (with_reducible repeat (first | refine blk_drewN ?_ _ | refine blk_drew ?_ | refine blk_alloc ?_ _)); exact BK278.out)) : gb278 ≠ gb289)); have n11_ := Aside0.mk ((by rw [hg]; exact Nat.ne_of_gt (blk_lt (g := gb278) (o := .cells #[.slice (some ad279) t270.length co10, .int .u64 t273, .int .u64 t274, .int .i64 t275, .int .i64 t276] 72 (0, 0)) (by (with_reducible repeat (first | refine blk_drewN ?_ _ | refine blk_drew ?_ | refine blk_alloc ?_ _)); exact BK278.out)) : gb289 ≠ gb278)); have n12_ := Aside0.mk ((by rw [hg]; exact Nat.ne_of_lt (blk_lt (g := gb280) (o := .cells #[.int .u64 ((rd_T70 t270 x38_3).f0), .int .u64 ((rd_T70 t270 x38_3).f1)] 70 (0, 0)) (by (with_reducible repeat (first | refine blk_drewN ?_ _ | refine blk_drew ?_ | refine blk_alloc ?_ _)); exact BK280.out)) : gb280 ≠ gb289)); have n13_ := Aside0.mk ((by rw [hg]; exact Nat.ne_of_gt (blk_lt (g := gb280) (o := .cells #[.int .u64 ((rd_T70 t270 x38_3).f0), .int .u64 ((rd_T70 t270 x38_3).f1)] 70 (0, 0)) (by (with_reducible repeat (first | refine blk_drewN ?_ _ | refine blk_drew ?_ | refine blk_alloc ?_ _)); exact BK280.out)) : gb289 ≠ gb280)); have n14_ := Aside0.mk ((by rw [hg]; exact Nat.ne_of_lt (blk_lt (g := gb283) (o := .cells #[.int .u64 t281, .int .u64 t282] 34 (0, 0)) (by (with_reducible repeat (first | refine blk_drewN ?_ _ | refine blk_drew ?_ | refine blk_alloc ?_ _)); exact BK283.out)) : gb283 ≠ gb289)); have n15_ := Aside0.mk ((by rw [hg]; exact Nat.ne_of_gt (blk_lt (g := gb283) (o := .cells #[.int .u64 t281, .int .u64 t282] 34 (0, 0)) (by (with_reducible repeat (first | refine blk_drewN ?_ _ | refine blk_drew ?_ | refine blk_alloc ?_ _)); exact BK283.out)) : gb289 ≠ gb283)); clear HO_36; clear HO_279000; clear BK278; clear BK280; clear BK283; clear HR287; clear HB; have HO_36 := n0_; have HO_279000 := n1_; have BK278 := n2_; have BK280 := n3_; have BK283 := n4_; have HR287 := n5_; have HB := n6_; have BK289 := n7_; have GW289 := n8_; have GE289 := n9_; have NB278_289 := n10_; have NB289_278 := n11_; have NB280_289 := n12_; have NB289_280 := n13_; have NB283_289 := n14_; have NB289_283 := n15_; clear n0_ n1_ n2_ n3_ n4_ n5_ n6_ n7_ n8_ n9_ n10_ n11_ n12_ n13_ n14_ n15_; clear hb hbox hg; have hnb104 := NB289_278.out; have hnc104 := NB278_289.out; have hnb105 := NB289_280.out; have hnc105 := NB280_289.out; have hnb106 := NB289_283.out; have hnc106 := NB283_289.out; have hcz107_0 : w103.cell? ⟨gb289, 0, none⟩ = some (.int .u64 0) := (blk_cell BK289.out 0).trans rfl; have hcz107_1 : w103.cell? ⟨gb289, 1, none⟩ = some (.int .u64 0) := (blk_cell BK289.out 1).trans rfl; have hfz107_0 := blk_frozen BK289.out 0; have hfz107_1 := blk_frozen BK289.out 1) | ((with_reducible refine gate_callee (f := 41) rfl ?_); refine goesL_ (some 89) rfl rfl Tryd.func41 (by kernel_rfl) rfl #[.agg #[.int .u64 ((rd_T70 y284 x84_5).f0), .int .u64 ((rd_T70 y284 x84_5).f1)]] rfl (by (try simp only [List.map_toArray, List.map_cons, List.map_nil]); first | done | rfl | (simp only [List.length_drop, List.length_take]; rfl)) ?_; (with_reducible refine (spec_Leaves.calls ((rd_T70 y284 x84_5).f0) ((rd_T70 y284 x84_5).f1) t290 t291 _ A70.out).mono ?_); rintro e w108 ⟨rfl, hb⟩; refine ⟨_, rfl, ?_⟩; have n0_ := Aside0.mk (Kd.R_below (by (with_reducible repeat (first | apply Kd.R_alloc | apply Kd.R_drewN | apply Kd.R_drew)); exact (Kd.R_mono (Kd.R_far (p := ⟨gb289, 1, none⟩) (Kd.R_far (p := ⟨gb289, 0, none⟩) (Kd.R_mono HO_36.out (fun k_ hk => (⟨hk, hk.2⟩ : _ ∧ k_ ≠ gb289))) (fun _ hk => hk.2) (.int .u64 ((rd_T70 y284 x84_5).f0))) (fun _ hk => hk.2) (.int .u64 ((rd_T70 y284 x84_5).f1))) (fun _ h_ => h_.1))) hb); have n1_ := Aside0.mk (Kd.R_below (by (with_reducible repeat (first | apply Kd.R_alloc | apply Kd.R_drewN | apply Kd.R_drew)); exact (Kd.R_mono (Kd.R_far (p := ⟨gb289, 1, none⟩) (Kd.R_far (p := ⟨gb289, 0, none⟩) (Kd.R_mono HO_279000.out (fun k_ hk => (⟨hk, hk.2⟩ : _ ∧ k_ ≠ gb289))) (fun _ hk => hk.2) (.int .u64 ((rd_T70 y284 x84_5).f0))) (fun _ hk => hk.2) (.int .u64 ((rd_T70 y284 x84_5).f1))) (fun _ h_ => h_.1))) hb); have n2_ := Aside0.mk (blk_below (g := gb278) (o := .cells #[.slice (some ad279) t270.length co10, .int .u64 t273, .int .u64 t274, .int .i64 t275, .int .i64 t276] 72 (0, 0)) (by (with_reducible repeat (first | refine blk_drewN ?_ _ | refine blk_drew ?_ | refine blk_alloc ?_ _)); refine blk_far ?_ NB278_289.out _; (with_reducible repeat (first | refine blk_drewN ?_ _ | refine blk_drew ?_ | refine blk_alloc ?_ _)); refine blk_far ?_ NB278_289.out _; (with_reducible repeat (first | refine blk_drewN ?_ _ | refine blk_drew ?_ | refine blk_alloc ?_ _)); exact BK278.out) hb); have n3_ := Aside0.mk (blk_below (g := gb280) (o := .cells #[.int .u64 ((rd_T70 t270 x38_3).f0), .int .u64 ((rd_T70 t270 x38_3).f1)] 70 (0, 0)) (by (with_reducible repeat (first | refine blk_drewN ?_ _ | refine blk_drew ?_ | refine blk_alloc ?_ _)); refine blk_far ?_ NB280_289.out _; (with_reducible repeat (first | refine blk_drewN ?_ _ | refine blk_drew ?_ | refine blk_alloc ?_ _)); refine blk_far ?_ NB280_289.out _; (with_reducible repeat (first | refine blk_drewN ?_ _ | refine blk_drew ?_ | refine blk_alloc ?_ _)); exact BK280.out) hb); have n4_ := Aside0.mk (blk_below (g := gb283) (o := .cells #[.int .u64 t281, .int .u64 t282] 34 (0, 0)) (by (with_reducible repeat (first | refine blk_drewN ?_ _ | refine blk_drew ?_ | refine blk_alloc ?_ _)); refine blk_far ?_ NB283_289.out _; (with_reducible repeat (first | refine blk_drewN ?_ _ | refine blk_drew ?_ | refine blk_alloc ?_ _)); refine blk_far ?_ NB283_289.out _; (with_reducible repeat (first | refine blk_drewN ?_ _ | refine blk_drew ?_ | refine blk_alloc ?_ _)); exact BK283.out) hb); have n5_ := Aside0.mk (Kd.C_below ((show Kd.C k70 _ (some ad279) y284.length y284 from by have h_ := Kd.C_take (m := (x38_3 : Int).toNat) ((Kd.R_reads' ((Kd.R_far (p := ⟨gb289, 1, none⟩) (Kd.R_far (p := ⟨gb289, 0, none⟩) (Kd.R_mono HO_279000.out (fun k_ hk => (⟨hk, hk.2⟩ : _ ∧ k_ ≠ gb289))) (fun _ hk => hk.2) (.int .u64 ((rd_T70 y284 x84_5).f0))) (fun _ hk => hk.2) (.int .u64 ((rd_T70 y284 x84_5).f1))))).2.2) KL66.out; rw [← Ny284.out] at h_; exact h_)) hb); have n6_ := Aside0.mk (blk_below (g := gb289) (o := .cells #[.int .u64 ((rd_T70 y284 x84_5).f0), .int .u64 ((rd_T70 y284 x84_5).f1)] 70 (0, 0)) (by (with_reducible repeat (first | refine blk_drewN ?_ _ | refine blk_drew ?_ | refine blk_alloc ?_ _)); refine blk_put (cs := #[.int .u64 ((rd_T70 y284 x84_5).f0), .int .u64 0]) ?_ 1 _ rfl; (with_reducible repeat (first | refine blk_drewN ?_ _ | refine blk_drew ?_ | refine blk_alloc ?_ _)); refine blk_put (cs := #[.int .u64 0, .int .u64 0]) ?_ 0 _ rfl; (with_reducible repeat (first | refine blk_drewN ?_ _ | refine blk_drew ?_ | refine blk_alloc ?_ _)); exact BK289.out) hb); have n7_ := Aside0.mk (below_step (by repeat (first | (with_reducible first | exact HB.out | apply below_alloc | apply pw_below_drewN | apply below_drew1 | refine below_set ?_ GE278.out | refine below_set ?_ GE280.out | refine below_set ?_ GE283.out | refine below_set ?_ GE289.out) | exact HB.out)) hb); clear HO_36; clear HO_279000; clear BK278; clear BK280; clear BK283; clear HR287; clear BK289; clear HB; have HO_36 := n0_; have HO_279000 := n1_; have BK278 := n2_; have BK280 := n3_; have BK283 := n4_; have HR287 := n5_; have BK289 := n6_; have HB := n7_; clear n0_ n1_ n2_ n3_ n4_ n5_ n6_ n7_; (try clear hb); (try clear hb2); (try clear hk); (try clear hi)) | ((with_reducible refine gate_dst (N := 14) rfl ?_); refine box_event ?hg (N := 14) ?hd (cs := #[.int .u64 0, .int .u64 0]) (t := 34) ?hr ?_; (case hd => rfl); (case hg => rfl); (case hr => first | (go_simp; done) | (go_simp; rfl)); intro gb292 hg w109 hbox hb; have n0_ := Aside0.mk (Kd.R_below (by (with_reducible repeat (first | apply Kd.R_alloc | apply Kd.R_drewN | apply Kd.R_drew)); exact HO_36.out) hb); have n1_ := Aside0.mk (Kd.R_below (by (with_reducible repeat (first | apply Kd.R_alloc | apply Kd.R_drewN | apply Kd.R_drew)); exact HO_279000.out) hb); have n2_ := Aside0.mk (blk_below (g := gb278) (o := .cells #[.slice (some ad279) t270.length co10, .int .u64 t273, .int .u64 t274, .int .i64 t275, .int .i64 t276] 72 (0, 0)) (by (with_reducible repeat (first | refine blk_drewN ?_ _ | refine blk_drew ?_ | refine blk_alloc ?_ _)); exact BK278.out) hb); have n3_ := Aside0.mk (blk_below (g := gb280) (o := .cells #[.int .u64 ((rd_T70 t270 x38_3).f0), .int .u64 ((rd_T70 t270 x38_3).f1)] 70 (0, 0)) (by (with_reducible repeat (first | refine blk_drewN ?_ _ | refine blk_drew ?_ | refine blk_alloc ?_ _)); exact BK280.out) hb); have n4_ := Aside0.mk (blk_below (g := gb283) (o := .cells #[.int .u64 t281, .int .u64 t282] 34 (0, 0)) (by (with_reducible repeat (first | refine blk_drewN ?_ _ | refine blk_drew ?_ | refine blk_alloc ?_ _)); exact BK283.out) hb); have n5_ := Aside0.mk (Kd.C_below (by repeat (first | (with_reducible exact HR287.out) | (with_reducible refine Kd.C_alloc ?_ _) | (with_reducible refine Kd.C_drewN ?_ _) | (with_reducible refine Kd.C_drew ?_) | exact HR287.out)) hb); have n6_ := Aside0.mk (blk_below (g := gb289) (o := .cells #[.int .u64 ((rd_T70 y284 x84_5).f0), .int .u64 ((rd_T70 y284 x84_5).f1)] 70 (0, 0)) (by (with_reducible repeat (first | refine blk_drewN ?_ _ | refine blk_drew ?_ | refine blk_alloc ?_ _)); exact BK289.out) hb); have n7_ := Aside0.mk (below_step (by repeat (first | (with_reducible first | exact HB.out | apply below_alloc | apply pw_below_drewN | apply below_drew1 | refine below_set ?_ GE278.out | refine below_set ?_ GE280.out | refine below_set ?_ GE283.out | refine below_set ?_ GE289.out) | exact HB.out)) hb); have n8_ := Aside0.mk (hbox); have n9_ := Aside0.mk ((by rw [hg]; exact (below_size (by repeat (first | (with_reducible first | exact HB.out | apply below_alloc | apply pw_below_drewN | apply below_drew1 | refine below_set ?_ GE278.out | refine below_set ?_ GE280.out | refine below_set ?_ GE283.out | refine below_set ?_ GE289.out) | exact HB.out))) : w.heap.size ≤ gb292)); have n10_ := Aside0.mk ((by rw [hg]; exact (below_size (by repeat (first | (with_reducible first | exact HB.out | apply below_alloc | apply pw_below_drewN | apply below_drew1 | refine below_set ?_ GE278.out | refine below_set ?_ GE280.out | refine below_set ?_ GE283.out | refine below_set ?_ GE289.out) | exact HB.out))) : w.heap.size ≤ gb292)); have n11_ := Aside0.mk ((by rw [hg]; exact Nat.ne_of_lt (blk_lt (g := gb278) (o := .cells #[.slice (some ad279) t270.length co10, .int .u64 t273, .int .u64 t274, .int .i64 t275, .int .i64 t276] 72 (0, 0)) (by (with_reducible repeat (first | refine blk_drewN ?_ _ | refine blk_drew ?_ | refine blk_alloc ?_ _)); exact BK278.out)) : gb278 ≠ gb292)); have n12_ := Aside0.mk ((by rw [hg]; exact Nat.ne_of_gt (blk_lt (g := gb278) (o := .cells #[.slice (some ad279) t270.length co10, .int .u64 t273, .int .u64 t274, .int .i64 t275, .int .i64 t276] 72 (0, 0)) (by (with_reducible repeat (first | refine blk_drewN ?_ _ | refine blk_drew ?_ | refine blk_alloc ?_ _)); exact BK278.out)) : gb292 ≠ gb278)); have n13_ := Aside0.mk ((by rw [hg]; exact Nat.ne_of_lt (blk_lt (g := gb280) (o := .cells #[.int .u64 ((rd_T70 t270 x38_3).f0), .int .u64 ((rd_T70 t270 x38_3).f1)] 70 (0, 0)) (by (with_reducible repeat (first | refine blk_drewN ?_ _ | refine blk_drew ?_ | refine blk_alloc ?_ _)); exact BK280.out)) : gb280 ≠ gb292)); have n14_ := Aside0.mk ((by rw [hg]; exact Nat.ne_of_gt (blk_lt (g := gb280) (o := .cells #[.int .u64 ((rd_T70 t270 x38_3).f0), .int .u64 ((rd_T70 t270 x38_3).f1)] 70 (0, 0)) (by (with_reducible repeat (first | refine blk_drewN ?_ _ | refine blk_drew ?_ | refine blk_alloc ?_ _)); exact BK280.out)) : gb292 ≠ gb280)); have n15_ := Aside0.mk ((by rw [hg]; exact Nat.ne_of_lt (blk_lt (g := gb283) (o := .cells #[.int .u64 t281, .int .u64 t282] 34 (0, 0)) (by (with_reducible repeat (first | refine blk_drewN ?_ _ | refine blk_drew ?_ | refine blk_alloc ?_ _)); exact BK283.out)) : gb283 ≠ gb292)); have n16_ := Aside0.mk ((by rw [hg]; exact Nat.ne_of_gt (blk_lt (g := gb283) (o := .cells #[.int .u64 t281, .int .u64 t282] 34 (0, 0)) (by (with_reducible repeat (first | refine blk_drewN ?_ _ | refine blk_drew ?_ | refine blk_alloc ?_ _)); exact BK283.out)) : gb292 ≠ gb283)); have n17_ := Aside0.mk ((by rw [hg]; exact Nat.ne_of_lt (blk_lt (g := gb289) (o := .cells #[.int .u64 ((rd_T70 y284 x84_5).f0), .int .u64 ((rd_T70 y284 x84_5).f1)] 70 (0, 0)) (by (with_reducible repeat (first | refine blk_drewN ?_ _ | refine blk_drew ?_ | refine blk_alloc ?_ _)); exact BK289.out)) : gb289 ≠ gb292)); have n18_ := Aside0.mk ((by rw [hg]; exact Nat.ne_of_gt (blk_lt (g := gb289) (o := .cells #[.int .u64 ((rd_T70 y284 x84_5).f0), .int .u64 ((rd_T70 y284 x84_5).f1)] 70 (0, 0)) (by (with_reducible repeat (first | refine blk_drewN ?_ _ | refine blk_drew ?_ | refine blk_alloc ?_ _)); exact BK289.out)) : gb292 ≠ gb289)); clear HO_36; clear HO_279000; clear BK278; clear BK280; clear BK283; clear HR287; clear BK289; clear HB; have HO_36 := n0_; have HO_279000 := n1_; have BK278 := n2_; have BK280 := n3_; have BK283 := n4_; have HR287 := n5_; have BK289 := n6_; have HB := n7_; have BK292 := n8_; have GW292 := n9_; have GE292 := n10_; have NB278_292 := n11_; have NB292_278 := n12_; have NB280_292 := n13_; have NB292_280 := n14_; have NB283_292 := n15_; have NB292_283 := n16_; have NB289_292 := n17_; have NB292_289 := n18_; clear n0_ n1_ n2_ n3_ n4_ n5_ n6_ n7_ n8_ n9_ n10_ n11_ n12_ n13_ n14_ n15_ n16_ n17_ n18_; clear hb hbox hg; have hnb110 := NB292_278.out; have hnc110 := NB278_292.out; have hnb111 := NB292_280.out; have hnc111 := NB280_292.out; have hnb112 := NB292_283.out; have hnc112 := NB283_292.out; have hnb113 := NB292_289.out; have hnc113 := NB289_292.out; have hcz114_0 : w109.cell? ⟨gb292, 0, none⟩ = some (.int .u64 0) := (blk_cell BK292.out 0).trans rfl; have hcz114_1 : w109.cell? ⟨gb292, 1, none⟩ = some (.int .u64 0) := (blk_cell BK292.out 1).trans rfl; have hfz114_0 := blk_frozen BK292.out 0; have hfz114_1 := blk_frozen BK292.out 1; have hnb115 := NB283_278.out; have hnc115 := NB278_283.out; have hnb116 := NB283_280.out; have hnc116 := NB280_283.out; have hcz117_0 : w109.cell? ⟨gb283, 0, none⟩ = some (.int .u64 t281) := (blk_cell BK283.out 0).trans rfl; have hcz117_1 : w109.cell? ⟨gb283, 1, none⟩ = some (.int .u64 t282) := (blk_cell BK283.out 1).trans rfl; have hfz117_0 := blk_frozen BK283.out 0; have hfz117_1 := blk_frozen BK283.out 1))
                                            go_roundg k5
                                            case measure => have := HJ2.out; have := HJ6.out; have := HK3.out; have := HJ17.out; have := HK5.out; omega
                                            case rel => exact ⟨(wrap64 (x84_5 + 1)), (by first | rfl | (simp; done) | (simp [*]; done)), H', ⟨by have := HJ2.out; have := HJ6.out; have := HK3.out; have := HJ17.out; have := HK5.out; omega⟩, ⟨by (with_reducible repeat (first | apply Kd.R_alloc | apply Kd.R_drewN | apply Kd.R_drew)); exact Kd.R_mono (Kd.R_far (p := ⟨gb292, 1, none⟩) (Kd.R_far (p := ⟨gb292, 0, none⟩) (Kd.R_types HO_36.out BK292.out (by decide)) (fun _ hk => hk.2) (.int .u64 t290)) (fun _ hk => hk.2) (.int .u64 t291)) (fun _ hk => hk.1.1)⟩, ⟨by (with_reducible repeat (first | apply Kd.R_alloc | apply Kd.R_drewN | apply Kd.R_drew)); exact Kd.R_mono (Kd.R_far (p := ⟨gb292, 1, none⟩) (Kd.R_far (p := ⟨gb292, 0, none⟩) (Kd.R_types HO_279000.out BK292.out (by decide)) (fun _ hk => hk.2) (.int .u64 t290)) (fun _ hk => hk.2) (.int .u64 t291)) (fun _ hk => hk.1.1)⟩, ⟨by (with_reducible repeat (first | refine blk_drewN ?_ _ | refine blk_drew ?_ | refine blk_alloc ?_ _)); refine blk_far ?_ NB278_292.out _; (with_reducible repeat (first | refine blk_drewN ?_ _ | refine blk_drew ?_ | refine blk_alloc ?_ _)); refine blk_far ?_ NB278_292.out _; (with_reducible repeat (first | refine blk_drewN ?_ _ | refine blk_drew ?_ | refine blk_alloc ?_ _)); exact BK278.out⟩, ⟨by (with_reducible repeat (first | refine blk_drewN ?_ _ | refine blk_drew ?_ | refine blk_alloc ?_ _)); refine blk_far ?_ NB280_292.out _; (with_reducible repeat (first | refine blk_drewN ?_ _ | refine blk_drew ?_ | refine blk_alloc ?_ _)); refine blk_far ?_ NB280_292.out _; (with_reducible repeat (first | refine blk_drewN ?_ _ | refine blk_drew ?_ | refine blk_alloc ?_ _)); exact BK280.out⟩, ⟨by (with_reducible repeat (first | refine blk_drewN ?_ _ | refine blk_drew ?_ | refine blk_alloc ?_ _)); refine blk_far ?_ NB283_292.out _; (with_reducible repeat (first | refine blk_drewN ?_ _ | refine blk_drew ?_ | refine blk_alloc ?_ _)); refine blk_far ?_ NB283_292.out _; (with_reducible repeat (first | refine blk_drewN ?_ _ | refine blk_drew ?_ | refine blk_alloc ?_ _)); exact BK283.out⟩, ⟨(show Kd.C k70 _ (some ad279) y284.length y284 from by have h_ := Kd.C_take (m := (x38_3 : Int).toNat) ((Kd.R_reads' ((Kd.R_far (p := ⟨gb292, 1, none⟩) (Kd.R_far (p := ⟨gb292, 0, none⟩) (Kd.R_types HO_279000.out BK292.out (by decide)) (fun _ hk => hk.2) (.int .u64 t290)) (fun _ hk => hk.2) (.int .u64 t291)))).2.2) KL66.out; rw [← Ny284.out] at h_; exact h_)⟩, ⟨by repeat (first | (with_reducible first | exact HB.out | apply below_alloc | apply pw_below_drewN | apply below_drew1 | refine below_set ?_ GE278.out | refine below_set ?_ GE280.out | refine below_set ?_ GE283.out | refine below_set ?_ GE289.out | refine below_set ?_ GE292.out) | exact HB.out)⟩⟩
                                        · rw [if_neg c69] at H
                                          exact absurd H (by simp)
                                      · rw [if_neg c68] at H
                                        exact absurd H (by simp)
                                    · rw [if_neg c67] at H
                                      have c67b0 : decide (x84_5 < (y284.length : Int)) = false := decide_eq_false c67
                                      clear c67
                                      have H' := Aside0.mk H
                                      clear H
                                      have hnb118 := NB283_278.out
                                      have hnc118 := NB278_283.out
                                      have hnb119 := NB283_280.out
                                      have hnc119 := NB280_283.out
                                      have hcz120_0 : wr.cell? ⟨gb283, 0, none⟩ = some (.int .u64 t281) := (blk_cell BK283.out 0).trans rfl
                                      have hcz120_1 : wr.cell? ⟨gb283, 1, none⟩ = some (.int .u64 t282) := (blk_cell BK283.out 1).trans rfl
                                      have hfz120_0 := blk_frozen BK283.out 0
                                      have hfz120_1 := blk_frozen BK283.out 1
                                      go_wp2
                                      go_roundg k5
                                      case measure => have := HJ2.out; have := HJ6.out; have := HK3.out; have := HJ17.out; have := HK5.out; omega
                                      case rel => exact ⟨(IntKind.u64.wrap (x7_3 + (IntKind.u64.wrap (t282 - t281)))), (wrap64 (x38_3 + 1)), (by first | rfl | (simp; done) | (simp [*]; done)), (by first | rfl | (simp; done) | (simp [*]; done)), H', ⟨by have := HJ2.out; have := HJ6.out; have := HK3.out; have := HJ17.out; have := HK5.out; omega⟩, ⟨by (with_reducible repeat (first | apply Kd.R_alloc | apply Kd.R_drewN | apply Kd.R_drew)); exact Kd.R_mono HO_36.out (fun _ hk => trivial)⟩, ⟨by (with_reducible repeat (first | apply Kd.R_alloc | apply Kd.R_drewN | apply Kd.R_drew)); exact Kd.R_mono HO_279000.out (fun _ hk => trivial)⟩, ⟨by (with_reducible repeat (first | refine blk_drewN ?_ _ | refine blk_drew ?_ | refine blk_alloc ?_ _)); exact BK278.out⟩, ⟨by repeat (first | (with_reducible first | exact HB.out | apply below_alloc | apply pw_below_drewN | apply below_drew1 | refine below_set ?_ GE278.out | refine below_set ?_ GE280.out | refine below_set ?_ GE283.out) | exact HB.out)⟩⟩
                              · rw [if_neg c62] at H
                                exact absurd H (by simp)
                            · rw [if_neg c61] at H
                              exact absurd H (by simp)
                    · rw [if_neg c16] at H
                      exact absurd H (by simp)
                  · rw [if_neg c15] at H
                    exact absurd H (by simp)
                · rw [if_neg c14] at H
                  have c14b0 : decide (x38_3 < (t270.length : Int)) = false := decide_eq_false c14
                  clear c14
                  by_cases c121 : t277 = true
                  · subst c121
                    have H1 : (some (x7_3 == a1)) = some r := by rw [if_pos rfl] at H; exact H
                    clear H
                    have H := H1
                    clear H1
                    obtain rfl := Option.some.inj H
                    go_wp2
                    go_ret
                    exact ⟨by first | rfl | (simp [errW_none, errW_some] <;> rfl) | (simp [*, errW_none, errW_some] <;> rfl), by repeat (first | (with_reducible first | exact HB.out | apply below_alloc | apply pw_below_drewN | apply below_drew1 | refine below_set ?_ GE278.out) | exact HB.out)⟩
                  · replace c121 := Bool.eq_false_iff.mpr c121
                    subst c121
                    have H1 : (some false) = some r := by rw [if_neg (show ¬ (false = true) by decide)] at H; exact H
                    clear H
                    have H := H1
                    clear H1
                    obtain rfl := Option.some.inj H
                    go_wp2
                    go_ret
                    exact ⟨by first | rfl | (simp [errW_none, errW_some] <;> rfl) | (simp [*, errW_none, errW_some] <;> rfl), by repeat (first | (with_reducible first | exact HB.out | apply below_alloc | apply pw_below_drewN | apply below_drew1 | refine below_set ?_ GE278.out) | exact HB.out)⟩
def laws_FnConsistencyCovers.Pure : Prop := ∀ (a0 : Int) (a1 : Int), (Lit.int .u64 a0).wf = true → (Lit.int .u64 a1).wf = true → ∃ k, laws_FnConsistencyCovers.f k a0 a1 = some true
theorem laws_FnConsistencyCovers.walk (P : laws_FnConsistencyCovers.Pure) (a0 : Int) (a1 : Int) (w : World) (hGT : GlobT w) (w0 : (Lit.int .u64 a0).wf = true) (w1 : (Lit.int .u64 a1).wf = true) :
    Calls Tryd.prog 8 #[.int .u64 a0, .int .u64 a1] w fun e w' => e = .returned (.bool true) ∧ Below w.heap.size w w' := by
  obtain ⟨k, h⟩ := P a0 a1 w0 w1
  refine (laws_FnConsistencyCovers.calls k a0 a1 true w hGT h).mono ?_
  rintro e w' ⟨rfl, hd⟩
  exact ⟨rfl, hd⟩
end Go.Proofs.YtijldedhcjkhiaaDoor.Y
