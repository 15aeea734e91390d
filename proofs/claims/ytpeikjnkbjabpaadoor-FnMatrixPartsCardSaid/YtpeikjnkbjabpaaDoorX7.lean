-- laid by xprint.py (a program of this session over the kit's print); Lean checks it
import Derived.Test.YtpeikjnkbjabpaaDoorX0
import Derived.Test.YtpeikjnkbjabpaaDoorX1
import Derived.Test.YtpeikjnkbjabpaaDoorX3
import Derived.Test.YtpeikjnkbjabpaaDoorX5
import Derived.Test.YtpeikjnkbjabpaaDoorX6
namespace Go.Proofs.YtpeikjnkbjabpaaDoor.X
open Go.RowKit Go.Proofs.YtpeikjnkbjabpaaDoorW.PrintWords Go.Proofs.YtpeikjnkbjabpaaDoorW.PrintLast Go.Proofs.YtpeikjnkbjabpaaDoorW.PrintMore
attribute [local go_sem] max2_int min2_int max_two min_two max_three min_three max_four min_four   -- for this text's walks alone
set_option linter.unusedVariables false
set_option linter.unusedSimpArgs false

/-! ### laws_FnMatrixParts: function 6 -/
mutual
def laws_FnMatrixParts.j0 : Nat → List (List Int) → List (List Int) → Int → Int → Int → Int → Bool → Option (Bool)
  | 0, _, _, _, _, _, _, _ => none
  | k + 1, x0, x1, x2, x3, x4, x5, x26 => if x26 = true then (some true) else ((laws_moderate.f k (([x0, x1] : List (List (List Int))))).bind fun t251 => (if t251 = true then ((impl_Augment.f k x0 x1).bind fun bt252 => ((spec_Rectangular.f k x0).bind fun t256 => (if t256 = true then ((spec_Rectangular.f k x1).bind fun t257 => (if t257 = true then (laws_FnMatrixParts.j1 k x0 x1 x2 x3 x4 x5 bt252.1 bt252.2 ((x0.length : Int) == (x1.length : Int))) else (laws_FnMatrixParts.j1 k x0 x1 x2 x3 x4 x5 bt252.1 bt252.2 false))) else (laws_FnMatrixParts.j1 k x0 x1 x2 x3 x4 x5 bt252.1 bt252.2 false)))) else (some true)))
def laws_FnMatrixParts.j1 : Nat → List (List Int) → List (List Int) → Int → Int → Int → Int → List (List Int) → Bool → Bool → Option (Bool)
  | 0, _, _, _, _, _, _, _, _, _ => none
  | k + 1, x0, x1, x2, x3, x4, x5, x13, x14, x15 => (impl_SubMatrix.f k x0 x2 x3 x4 x5).bind fun bt258 => ((spec_Rectangular.f k x0).bind fun t262 => (if t262 = true then (if 0 ≤ x2 then (if x2 < x4 then (if x4 ≤ (x0.length : Int) then (if 0 ≤ x3 then (if x3 < x5 then ((spec_Columns.f x0).bind fun t263 => (laws_FnMatrixParts.j2 k x0 x1 x2 x3 x4 x5 x13 x14 x15 bt258.1 bt258.2 (decide (x5 ≤ t263)))) else (laws_FnMatrixParts.j2 k x0 x1 x2 x3 x4 x5 x13 x14 x15 bt258.1 bt258.2 false)) else (laws_FnMatrixParts.j2 k x0 x1 x2 x3 x4 x5 x13 x14 x15 bt258.1 bt258.2 false)) else (laws_FnMatrixParts.j2 k x0 x1 x2 x3 x4 x5 x13 x14 x15 bt258.1 bt258.2 false)) else (laws_FnMatrixParts.j2 k x0 x1 x2 x3 x4 x5 x13 x14 x15 bt258.1 bt258.2 false)) else (laws_FnMatrixParts.j2 k x0 x1 x2 x3 x4 x5 x13 x14 x15 bt258.1 bt258.2 false)) else (laws_FnMatrixParts.j2 k x0 x1 x2 x3 x4 x5 x13 x14 x15 bt258.1 bt258.2 false)))
def laws_FnMatrixParts.j2 : Nat → List (List Int) → List (List Int) → Int → Int → Int → Int → List (List Int) → Bool → Bool → List (List Int) → Bool → Bool → Option (Bool)
  | 0, _, _, _, _, _, _, _, _, _, _, _, _ => none
  | k + 1, x0, x1, x2, x3, x4, x5, x13, x14, x15, x16, x17, x18 => if (x14 == x15) = true then (if (x17 == x18) = true then (if x15 = true then ((spec_Beside.f k x0 x1).bind fun t264 => ((spec_EqualMatrices.f k x13 t264).bind fun t267 => (if t267 = true then (if x18 = true then ((spec_Block.f k x0 x2 x3 x4 x5).bind fun t268 => ((spec_EqualMatrices.f k x16 t268).bind fun t271 => (some t271))) else (some true)) else (some false)))) else (if x18 = true then ((spec_Block.f k x0 x2 x3 x4 x5).bind fun t272 => ((spec_EqualMatrices.f k x16 t272).bind fun t275 => (some t275))) else (some true))) else (some false)) else (some false)
end
def laws_FnMatrixParts.f (k : Nat) (l0 : List (List Int)) (l1 : List (List Int)) (a2 : Int) (a3 : Int) (a4 : Int) (a5 : Int) : Option (Bool) := (laws_zzFits2.f k l0).bind fun t246 => (if t246 = true then ((laws_zzFits2.f k l1).bind fun t247 => (laws_FnMatrixParts.j0 k l0 l1 a2 a3 a4 a5 (!t247))) else (laws_FnMatrixParts.j0 k l0 l1 a2 a3 a4 a5 true))
theorem laws_FnMatrixParts.mono_l : ∀ k, (∀ y0 y1 y2 y3 y4 y5 y6, LeO (laws_FnMatrixParts.j0 k y0 y1 y2 y3 y4 y5 y6) (laws_FnMatrixParts.j0 (k + 1) y0 y1 y2 y3 y4 y5 y6)) ∧ (∀ y0 y1 y2 y3 y4 y5 y6 y7 y8, LeO (laws_FnMatrixParts.j1 k y0 y1 y2 y3 y4 y5 y6 y7 y8) (laws_FnMatrixParts.j1 (k + 1) y0 y1 y2 y3 y4 y5 y6 y7 y8)) ∧ (∀ y0 y1 y2 y3 y4 y5 y6 y7 y8 y9 y10 y11, LeO (laws_FnMatrixParts.j2 k y0 y1 y2 y3 y4 y5 y6 y7 y8 y9 y10 y11) (laws_FnMatrixParts.j2 (k + 1) y0 y1 y2 y3 y4 y5 y6 y7 y8 y9 y10 y11))
  | 0 => ⟨fun _ _ _ _ _ _ _ r h => by simp [laws_FnMatrixParts.j0] at h, fun _ _ _ _ _ _ _ _ _ r h => by simp [laws_FnMatrixParts.j1] at h, fun _ _ _ _ _ _ _ _ _ _ _ _ r h => by simp [laws_FnMatrixParts.j2] at h⟩
  | k + 1 => by
    obtain ⟨ih0, ih1, ih2⟩ := laws_FnMatrixParts.mono_l k
    refine ⟨?_, ?_, ?_⟩
    · intro y0 y1 y2 y3 y4 y5 y6
      unfold laws_FnMatrixParts.j0
      repeat' first
      | (with_reducible exact ih0 _ _ _ _ _ _ _)
      | (with_reducible exact ih1 _ _ _ _ _ _ _ _ _)
      | (with_reducible exact ih2 _ _ _ _ _ _ _ _ _ _ _ _)
      | (with_reducible exact impl_Augment.mono _ _ _)
      | (with_reducible exact impl_SubMatrix.mono _ _ _ _ _ _)
      | (with_reducible exact laws_moderate.mono _ _)
      | (with_reducible exact laws_zzFits2.mono _ _)
      | (with_reducible exact spec_Beside.mono _ _ _)
      | (with_reducible exact spec_Block.mono _ _ _ _ _ _)
      | (with_reducible exact spec_EqualMatrices.mono _ _ _)
      | (with_reducible exact spec_Rectangular.mono _ _)
      | (with_reducible exact LeO.refl _)
      | (with_reducible exact LeO.none _)
      | (with_reducible refine LeO.ite ?_ ?_)
      | (with_reducible refine LeO.bind ?_ (fun _ => ?_))
      | exact ih0 _ _ _ _ _ _ _
      | exact ih1 _ _ _ _ _ _ _ _ _
      | exact ih2 _ _ _ _ _ _ _ _ _ _ _ _
      | exact impl_Augment.mono _ _ _
      | exact impl_SubMatrix.mono _ _ _ _ _ _
      | exact laws_moderate.mono _ _
      | exact laws_zzFits2.mono _ _
      | exact spec_Beside.mono _ _ _
      | exact spec_Block.mono _ _ _ _ _ _
      | exact spec_EqualMatrices.mono _ _ _
      | exact spec_Rectangular.mono _ _
      | exact LeO.none _
      | refine LeO.ite ?_ ?_
      | refine LeO.bind ?_ (fun _ => ?_)
    · intro y0 y1 y2 y3 y4 y5 y6 y7 y8
      unfold laws_FnMatrixParts.j1
      repeat' first
      | (with_reducible exact ih0 _ _ _ _ _ _ _)
      | (with_reducible exact ih1 _ _ _ _ _ _ _ _ _)
      | (with_reducible exact ih2 _ _ _ _ _ _ _ _ _ _ _ _)
      | (with_reducible exact impl_Augment.mono _ _ _)
      | (with_reducible exact impl_SubMatrix.mono _ _ _ _ _ _)
      | (with_reducible exact laws_moderate.mono _ _)
      | (with_reducible exact laws_zzFits2.mono _ _)
      | (with_reducible exact spec_Beside.mono _ _ _)
      | (with_reducible exact spec_Block.mono _ _ _ _ _ _)
      | (with_reducible exact spec_EqualMatrices.mono _ _ _)
      | (with_reducible exact spec_Rectangular.mono _ _)
      | (with_reducible exact LeO.refl _)
      | (with_reducible exact LeO.none _)
      | (with_reducible refine LeO.ite ?_ ?_)
      | (with_reducible refine LeO.bind ?_ (fun _ => ?_))
      | exact ih0 _ _ _ _ _ _ _
      | exact ih1 _ _ _ _ _ _ _ _ _
      | exact ih2 _ _ _ _ _ _ _ _ _ _ _ _
      | exact impl_Augment.mono _ _ _
      | exact impl_SubMatrix.mono _ _ _ _ _ _
      | exact laws_moderate.mono _ _
      | exact laws_zzFits2.mono _ _
      | exact spec_Beside.mono _ _ _
      | exact spec_Block.mono _ _ _ _ _ _
      | exact spec_EqualMatrices.mono _ _ _
      | exact spec_Rectangular.mono _ _
      | exact LeO.none _
      | refine LeO.ite ?_ ?_
      | refine LeO.bind ?_ (fun _ => ?_)
    · intro y0 y1 y2 y3 y4 y5 y6 y7 y8 y9 y10 y11
      unfold laws_FnMatrixParts.j2
      repeat' first
      | (with_reducible exact ih0 _ _ _ _ _ _ _)
      | (with_reducible exact ih1 _ _ _ _ _ _ _ _ _)
      | (with_reducible exact ih2 _ _ _ _ _ _ _ _ _ _ _ _)
      | (with_reducible exact impl_Augment.mono _ _ _)
      | (with_reducible exact impl_SubMatrix.mono _ _ _ _ _ _)
      | (with_reducible exact laws_moderate.mono _ _)
      | (with_reducible exact laws_zzFits2.mono _ _)
      | (with_reducible exact spec_Beside.mono _ _ _)
      | (with_reducible exact spec_Block.mono _ _ _ _ _ _)
      | (with_reducible exact spec_EqualMatrices.mono _ _ _)
      | (with_reducible exact spec_Rectangular.mono _ _)
      | (with_reducible exact LeO.refl _)
      | (with_reducible exact LeO.none _)
      | (with_reducible refine LeO.ite ?_ ?_)
      | (with_reducible refine LeO.bind ?_ (fun _ => ?_))
      | exact ih0 _ _ _ _ _ _ _
      | exact ih1 _ _ _ _ _ _ _ _ _
      | exact ih2 _ _ _ _ _ _ _ _ _ _ _ _
      | exact impl_Augment.mono _ _ _
      | exact impl_SubMatrix.mono _ _ _ _ _ _
      | exact laws_moderate.mono _ _
      | exact laws_zzFits2.mono _ _
      | exact spec_Beside.mono _ _ _
      | exact spec_Block.mono _ _ _ _ _ _
      | exact spec_EqualMatrices.mono _ _ _
      | exact spec_Rectangular.mono _ _
      | exact LeO.none _
      | refine LeO.ite ?_ ?_
      | refine LeO.bind ?_ (fun _ => ?_)
theorem laws_FnMatrixParts.mono : ∀ a0 a1 a2 a3 a4 a5 k, LeO (laws_FnMatrixParts.f k a0 a1 a2 a3 a4 a5) (laws_FnMatrixParts.f (k + 1) a0 a1 a2 a3 a4 a5) := by
  intro a0 a1 a2 a3 a4 a5 k
  obtain ⟨ih0, ih1, ih2⟩ := laws_FnMatrixParts.mono_l k
  unfold laws_FnMatrixParts.f
  repeat' first
      | (with_reducible exact ih0 _ _ _ _ _ _ _)
      | (with_reducible exact ih1 _ _ _ _ _ _ _ _ _)
      | (with_reducible exact ih2 _ _ _ _ _ _ _ _ _ _ _ _)
      | (with_reducible exact impl_Augment.mono _ _ _)
      | (with_reducible exact impl_SubMatrix.mono _ _ _ _ _ _)
      | (with_reducible exact laws_moderate.mono _ _)
      | (with_reducible exact laws_zzFits2.mono _ _)
      | (with_reducible exact spec_Beside.mono _ _ _)
      | (with_reducible exact spec_Block.mono _ _ _ _ _ _)
      | (with_reducible exact spec_EqualMatrices.mono _ _ _)
      | (with_reducible exact spec_Rectangular.mono _ _)
      | (with_reducible exact LeO.refl _)
      | (with_reducible exact LeO.none _)
      | (with_reducible refine LeO.ite ?_ ?_)
      | (with_reducible refine LeO.bind ?_ (fun _ => ?_))
      | exact ih0 _ _ _ _ _ _ _
      | exact ih1 _ _ _ _ _ _ _ _ _
      | exact ih2 _ _ _ _ _ _ _ _ _ _ _ _
      | exact impl_Augment.mono _ _ _
      | exact impl_SubMatrix.mono _ _ _ _ _ _
      | exact laws_moderate.mono _ _
      | exact laws_zzFits2.mono _ _
      | exact spec_Beside.mono _ _ _
      | exact spec_Block.mono _ _ _ _ _ _
      | exact spec_EqualMatrices.mono _ _ _
      | exact spec_Rectangular.mono _ _
      | exact LeO.none _
      | refine LeO.ite ?_ ?_
      | refine LeO.bind ?_ (fun _ => ?_)
set_option maxHeartbeats 8000000 in
set_option maxRecDepth 100000 in
theorem laws_FnMatrixParts.calls (k : Nat) (P0_ : Nat → Prop) (A0 : Option Addr) (c0 : Nat) (l0 : List (List Int)) (P1_ : Nat → Prop) (A1 : Option Addr) (c1 : Nat) (l1 : List (List Int)) (a2 : Int) (a3 : Int) (a4 : Int) (a5 : Int) (r : Bool) (w : World) (hGE : GlobE w) (hs0 : Kd.V (Kd.slice 5 (Kd.int .u8)) 22 w w.heap.size (fun k_ => P0_ k_) (.slice A0 l0.length c0) l0) (hs1 : Kd.V (Kd.slice 5 (Kd.int .u8)) 22 w w.heap.size (fun k_ => P1_ k_) (.slice A1 l1.length c1) l1) (h : laws_FnMatrixParts.f k l0 l1 a2 a3 a4 a5 = some r) :
    Calls Tryd.prog 6 #[.slice A0 l0.length c0, .slice A1 l1.length c1, .int .i64 a2, .int .i64 a3, .int .i64 a4, .int .i64 a5] w fun e w' => e = .returned (.bool r) ∧ Below w.heap.size w w' := by
  have HO0 := Aside0.mk (show Kd.V (Kd.slice 5 (Kd.int .u8)) 22 w w.heap.size (fun k_ => ((P0_ k_ ∨ P1_ k_) ∨ w.heap.size ≤ k_)) (.slice A0 l0.length c0) l0 from Kd.V_mono hs0 (fun k_ hk => .inl (.inl hk)))
  have HO1 := Aside0.mk (show Kd.V (Kd.slice 5 (Kd.int .u8)) 22 w w.heap.size (fun k_ => ((P0_ k_ ∨ P1_ k_) ∨ w.heap.size ≤ k_)) (.slice A1 l1.length c1) l1 from Kd.V_mono hs1 (fun k_ hk => .inl (.inr hk)))
  have HB := Aside0.mk (Below.refl w.heap.size w)
  have H : ((laws_zzFits2.f k l0).bind fun t246 => (if t246 = true then ((laws_zzFits2.f k l1).bind fun t247 => (laws_FnMatrixParts.j0 k l0 l1 a2 a3 a4 a5 (!t247))) else (laws_FnMatrixParts.j0 k l0 l1 a2 a3 a4 a5 true))) = some r := h
  clear h
  have HC7 := Aside0.mk H
  clear H
  go_enter Tryd.func6, Tryd.ntmps6
  go_upto_region 1 with (fail)
  go_cut [26] (fun v26 wc => ∃ (kq : Nat) (x26_6 : Bool), v26 = .bool x26_6 ∧ Aside0 (laws_FnMatrixParts.j0 kq l0 l1 a2 a3 a4 a5 x26_6 = some r) ∧ Aside0 (kq ≤ k) ∧ Aside0 (Kd.V (Kd.slice 5 (Kd.int .u8)) 22 wc w.heap.size (fun k_ => ((P0_ k_ ∨ P1_ k_) ∨ w.heap.size ≤ k_)) (.slice A0 l0.length c0) l0) ∧ Aside0 (Kd.V (Kd.slice 5 (Kd.int .u8)) 22 wc w.heap.size (fun k_ => ((P0_ k_ ∨ P1_ k_) ∨ w.heap.size ≤ k_)) (.slice A1 l1.length c1) l1) ∧ Aside0 (Below w.heap.size w wc))
  case first =>
    have H := HC7.out
    clear HC7
    replace H := Option.bind_eq_some_iff.mp H
    obtain ⟨t246, A80, H⟩ := H
    replace H : (if t246 = true then ((laws_zzFits2.f k l1).bind fun t247 => (laws_FnMatrixParts.j0 k l0 l1 a2 a3 a4 a5 (!t247))) else (laws_FnMatrixParts.j0 k l0 l1 a2 a3 a4 a5 true)) = some r := H
    have A8 := Aside0.mk A80
    clear A80
    by_cases c9 : t246 = true
    · subst c9
      have H1 : ((laws_zzFits2.f k l1).bind fun t247 => (laws_FnMatrixParts.j0 k l0 l1 a2 a3 a4 a5 (!t247))) = some r := by rw [if_pos rfl] at H; exact H
      clear H
      have H := H1
      clear H1
      replace H := Option.bind_eq_some_iff.mp H
      obtain ⟨t247, A100, H⟩ := H
      replace H : (laws_FnMatrixParts.j0 k l0 l1 a2 a3 a4 a5 (!t247)) = some r := H
      have A10 := Aside0.mk A100
      clear A100
      have H' := Aside0.mk H
      clear H
      go_wp2_with (first | ((with_reducible refine gate_callee (f := 13) rfl ?_); refine goesL_ (some 20) rfl rfl Tryd.func13 (by kernel_rfl) rfl #[.slice A0 l0.length c0] rfl (by (try simp only [List.map_toArray, List.map_cons, List.map_nil]); first | done | rfl | (simp only [List.length_drop, List.length_take]; rfl)) ?_; (with_reducible refine (laws_zzFits2.calls k _ _ l0 true _ ?side1 ?side2 A8.out).mono ?_); (case side1 => repeat (first | exact (Kd.V_reads' HO0.out).2.2 | (with_reducible refine Kd.C_alloc ?_ _) | (with_reducible refine Kd.C_drewN ?_ _) | (with_reducible refine Kd.C_drew ?_))); (case side2 => exact (Kd.V_reads' HO0.out).2.1); rintro e w' ⟨rfl, ⟨nd, rfl⟩⟩; refine ⟨_, rfl, ?_⟩) | (go_at_call 13; (with_reducible refine (laws_zzFits2.calls k _ _ l1 t247 _ ?side1 ?side2 A10.out).mono ?_); (case side1 => repeat (first | exact (Kd.V_reads' HO1.out).2.2 | (with_reducible refine Kd.C_alloc ?_ _) | (with_reducible refine Kd.C_drewN ?_ _) | (with_reducible refine Kd.C_drew ?_))); (case side2 => exact (Kd.V_reads' HO1.out).2.1); rintro e w' ⟨rfl, ⟨nd, rfl⟩⟩))
      go_meet
      case rel => exact ⟨_, (!t247), (by first | rfl | (simp; done) | (simp [*]; done)), H', ⟨by first | omega | exact Nat.le_refl _⟩, ⟨by (with_reducible repeat (first | apply Kd.V_alloc | apply Kd.V_drewN | apply Kd.V_drew)); exact HO0.out⟩, ⟨by (with_reducible repeat (first | apply Kd.V_alloc | apply Kd.V_drewN | apply Kd.V_drew)); exact HO1.out⟩, ⟨by repeat (first | (with_reducible first | exact HB.out | apply below_alloc | apply pw_below_drewN | apply below_drew1) | exact HB.out)⟩⟩
    · replace c9 := Bool.eq_false_iff.mpr c9
      subst c9
      have H1 : (laws_FnMatrixParts.j0 k l0 l1 a2 a3 a4 a5 true) = some r := by rw [if_neg (show ¬ (false = true) by decide)] at H; exact H
      clear H
      have H := H1
      clear H1
      have H' := Aside0.mk H
      clear H
      go_wp2_with (first | ((with_reducible refine gate_callee (f := 13) rfl ?_); refine goesL_ (some 20) rfl rfl Tryd.func13 (by kernel_rfl) rfl #[.slice A0 l0.length c0] rfl (by (try simp only [List.map_toArray, List.map_cons, List.map_nil]); first | done | rfl | (simp only [List.length_drop, List.length_take]; rfl)) ?_; (with_reducible refine (laws_zzFits2.calls k _ _ l0 false _ ?side1 ?side2 A8.out).mono ?_); (case side1 => repeat (first | exact (Kd.V_reads' HO0.out).2.2 | (with_reducible refine Kd.C_alloc ?_ _) | (with_reducible refine Kd.C_drewN ?_ _) | (with_reducible refine Kd.C_drew ?_))); (case side2 => exact (Kd.V_reads' HO0.out).2.1); rintro e w' ⟨rfl, ⟨nd, rfl⟩⟩; refine ⟨_, rfl, ?_⟩))
      go_meet
      case rel => exact ⟨_, (true), (by first | rfl | (simp; done) | (simp [*]; done)), H', ⟨by first | omega | exact Nat.le_refl _⟩, ⟨by (with_reducible repeat (first | apply Kd.V_alloc | apply Kd.V_drewN | apply Kd.V_drew)); exact HO0.out⟩, ⟨by (with_reducible repeat (first | apply Kd.V_alloc | apply Kd.V_drewN | apply Kd.V_drew)); exact HO1.out⟩, ⟨by repeat (first | (with_reducible first | exact HB.out | apply below_alloc | apply pw_below_drewN | apply below_drew1) | exact HB.out)⟩⟩
  case rest =>
    clear HC7
    try clear c1
    try clear p2
    try clear c6
    try clear c9
    obtain ⟨kq, x26_6, rfl, HA, HJ6, HO_0, HO_1, HB⟩ := hcut
    cases kq with
    | zero => exact absurd HA.out (by simp [laws_FnMatrixParts.j0])
    | succ kj6 =>
      have H := HA.out
      clear HA
      simp only [laws_FnMatrixParts.j0] at H
      by_cases c11 : x26_6 = true
      · subst c11
        have H1 : (some true) = some r := by rw [if_pos rfl] at H; exact H
        clear H
        have H := H1
        clear H1
        obtain rfl := Option.some.inj H
        go_wp2
        go_ret
        exact ⟨by first | rfl | (simp [errW_none, errW_some] <;> rfl) | (simp [*, errW_none, errW_some] <;> rfl), by repeat (first | (with_reducible first | exact HB.out | apply below_alloc | apply pw_below_drewN | apply below_drew1) | exact HB.out)⟩
      · replace c11 := Bool.eq_false_iff.mpr c11
        subst c11
        have H1 : ((laws_moderate.f kj6 (([l0, l1] : List (List (List Int))))).bind fun t251 => (if t251 = true then ((impl_Augment.f kj6 l0 l1).bind fun bt252 => ((spec_Rectangular.f kj6 l0).bind fun t256 => (if t256 = true then ((spec_Rectangular.f kj6 l1).bind fun t257 => (if t257 = true then (laws_FnMatrixParts.j1 kj6 l0 l1 a2 a3 a4 a5 bt252.1 bt252.2 ((l0.length : Int) == (l1.length : Int))) else (laws_FnMatrixParts.j1 kj6 l0 l1 a2 a3 a4 a5 bt252.1 bt252.2 false))) else (laws_FnMatrixParts.j1 kj6 l0 l1 a2 a3 a4 a5 bt252.1 bt252.2 false)))) else (some true))) = some r := by rw [if_neg (show ¬ (false = true) by decide)] at H; exact H
        clear H
        have H := H1
        clear H1
        obtain ⟨y248, hy248⟩ : ∃ y_ : List (List (List Int)), y_ = (([l0, l1] : List (List (List Int)))) := ⟨_, rfl⟩
        replace H : ((laws_moderate.f kj6 y248).bind fun t251 => (if t251 = true then ((impl_Augment.f kj6 l0 l1).bind fun bt252 => ((spec_Rectangular.f kj6 l0).bind fun t256 => (if t256 = true then ((spec_Rectangular.f kj6 l1).bind fun t257 => (if t257 = true then (laws_FnMatrixParts.j1 kj6 l0 l1 a2 a3 a4 a5 bt252.1 bt252.2 ((l0.length : Int) == (l1.length : Int))) else (laws_FnMatrixParts.j1 kj6 l0 l1 a2 a3 a4 a5 bt252.1 bt252.2 false))) else (laws_FnMatrixParts.j1 kj6 l0 l1 a2 a3 a4 a5 bt252.1 bt252.2 false)))) else (some true))) = some r := by first | (rw [hy248]; with_reducible exact H) | (have H2_ := (Option.bind_some _ _).symm.trans H; rw [hy248]; with_reducible exact H2_) | (have H2_ := (Option.bind_some _ _).symm.trans H; with_reducible exact H2_) | with_reducible exact H | (rw [hy248]; exact H) | exact H
        have Ny248 := Aside0.mk hy248
        clear hy248
        replace H := Option.bind_eq_some_iff.mp H
        obtain ⟨t251, A120, H⟩ := H
        replace H : (if t251 = true then ((impl_Augment.f kj6 l0 l1).bind fun bt252 => ((spec_Rectangular.f kj6 l0).bind fun t256 => (if t256 = true then ((spec_Rectangular.f kj6 l1).bind fun t257 => (if t257 = true then (laws_FnMatrixParts.j1 kj6 l0 l1 a2 a3 a4 a5 bt252.1 bt252.2 ((l0.length : Int) == (l1.length : Int))) else (laws_FnMatrixParts.j1 kj6 l0 l1 a2 a3 a4 a5 bt252.1 bt252.2 false))) else (laws_FnMatrixParts.j1 kj6 l0 l1 a2 a3 a4 a5 bt252.1 bt252.2 false)))) else (some true)) = some r := H
        have A12 := Aside0.mk A120
        clear A120
        by_cases c13 : t251 = true
        · subst c13
          have H1 : ((impl_Augment.f kj6 l0 l1).bind fun bt252 => ((spec_Rectangular.f kj6 l0).bind fun t256 => (if t256 = true then ((spec_Rectangular.f kj6 l1).bind fun t257 => (if t257 = true then (laws_FnMatrixParts.j1 kj6 l0 l1 a2 a3 a4 a5 bt252.1 bt252.2 ((l0.length : Int) == (l1.length : Int))) else (laws_FnMatrixParts.j1 kj6 l0 l1 a2 a3 a4 a5 bt252.1 bt252.2 false))) else (laws_FnMatrixParts.j1 kj6 l0 l1 a2 a3 a4 a5 bt252.1 bt252.2 false)))) = some r := by rw [if_pos rfl] at H; exact H
          clear H
          have H := H1
          clear H1
          replace H := Option.bind_eq_some_iff.mp H
          obtain ⟨⟨t252, t253⟩, A140, H⟩ := H
          replace H : ((spec_Rectangular.f kj6 l0).bind fun t256 => (if t256 = true then ((spec_Rectangular.f kj6 l1).bind fun t257 => (if t257 = true then (laws_FnMatrixParts.j1 kj6 l0 l1 a2 a3 a4 a5 t252 t253 ((l0.length : Int) == (l1.length : Int))) else (laws_FnMatrixParts.j1 kj6 l0 l1 a2 a3 a4 a5 t252 t253 false))) else (laws_FnMatrixParts.j1 kj6 l0 l1 a2 a3 a4 a5 t252 t253 false))) = some r := H
          have A14 := Aside0.mk A140
          clear A140
          have HC15 := Aside0.mk H
          clear H
          go_upto_region 6 with (first | ((with_reducible refine gate_dst (N := 29) rfl ?_); (try (refine gate_guard (by rfl) ?_; dsimp only)); refine Kd.N_lit (Kd.slice 22 (Kd.slice 5 (Kd.int .u8))) _ 30 ?hg (N' := 29) ?hd (xs := ([l0, l1] : List (List (List Int)))) (inner := [.slice A0 l0.length c0, .slice A1 l1.length c1]) (ok := (fun k_ => ((P0_ k_ ∨ P1_ k_) ∨ w.heap.size ≤ k_))) (okp := (fun k_ => ((P0_ k_ ∨ P1_ k_) ∨ w.heap.size ≤ k_))) ?hr ?hp (fun _ hk => hk) ((show ∀ k_, wc.heap.size ≤ k_ → (fun k_ => ((P0_ k_ ∨ P1_ k_) ∨ w.heap.size ≤ k_)) k_ from fun k_ hk => (.inr (Nat.le_trans (below_size (by repeat (first | (with_reducible first | exact HB.out | apply below_alloc | apply pw_below_drewN | apply below_drew1) | exact HB.out))) hk))) _ (Nat.le_refl _)) (Below.refl _ _) (Nat.le_refl _) (by simp) ?_; (case hd => rfl); (case hg => rfl); (case hr => first | (go_simp; done) | (go_simp; rfl)); (case hp => exact (Reps.one (show Kd.FK (Kd.slice 22 (Kd.slice 5 (Kd.int .u8))) _ _ l0 [.slice A0 l0.length c0] from (Kd.FK_slice_mk (Kd.V_reads' (Kd.V_mono (ok' := (fun k_ => ((P0_ k_ ∨ P1_ k_) ∨ w.heap.size ≤ k_))) (HO_0.out) (fun k_ hk => hk))).2.1 (Kd.V_F (Kd.V_mono (ok' := (fun k_ => ((P0_ k_ ∨ P1_ k_) ∨ w.heap.size ≤ k_))) (HO_0.out) (fun k_ hk => hk))))) (Reps.one (show Kd.FK (Kd.slice 22 (Kd.slice 5 (Kd.int .u8))) _ _ l1 [.slice A1 l1.length c1] from (Kd.FK_slice_mk (Kd.V_reads' (Kd.V_mono (ok' := (fun k_ => ((P0_ k_ ∨ P1_ k_) ∨ w.heap.size ≤ k_))) (HO_1.out) (fun k_ hk => hk))).2.1 (Kd.V_F (Kd.V_mono (ok' := (fun k_ => ((P0_ k_ ∨ P1_ k_) ∨ w.heap.size ≤ k_))) (HO_1.out) (fun k_ hk => hk))))) (Reps.none _ _)))); intro v249 w16 ho17 hb hg_ hnew_; clear hg_ hnew_; (first | rw [← Ny248.out] at ho17 | (simp only [Int.reduceToNat] at ho17; rw [← Ny248.out] at ho17)); have n0_ := Aside0.mk (Kd.V_elder' (by (with_reducible repeat (first | apply Kd.V_alloc | apply Kd.V_drewN | apply Kd.V_drew)); exact HO_0.out) (by first | exact Kd.N_base ho17 | exact Kd.S_base ho17 | exact Kd.N_base (Kd.S_N (Kd.S_bound ho17))) hb); have n1_ := Aside0.mk (Kd.V_elder' (by (with_reducible repeat (first | apply Kd.V_alloc | apply Kd.V_drewN | apply Kd.V_drew)); exact HO_1.out) (by first | exact Kd.N_base ho17 | exact Kd.S_base ho17 | exact Kd.N_base (Kd.S_N (Kd.S_bound ho17))) hb); have n2_ := Aside0.mk (Kd.N_lower ho17 (below_size (by repeat (first | (with_reducible first | exact HB.out | apply below_alloc | apply pw_below_drewN | apply below_drew1) | exact HB.out)))); have n3_ := Aside0.mk (below_step (by repeat (first | (with_reducible first | exact HB.out | apply below_alloc | apply pw_below_drewN | apply below_drew1) | exact HB.out)) hb); clear HO_0; clear HO_1; clear HB; have HO_0 := n0_; have HO_1 := n1_; have HO250 := n2_; have HB := n3_; clear n0_ n1_ n2_ n3_; clear hb ho17; obtain ⟨Ao18, co18, eo18⟩ := Kd.N_slice HO250.out; subst eo18) | ((with_reducible refine gate_callee (f := 14) rfl ?_); refine goesL_ (some 30) rfl rfl Tryd.func14 (by kernel_rfl) rfl #[.slice Ao18 y248.length co18] rfl (by (try simp only [List.map_toArray, List.map_cons, List.map_nil]); first | done | rfl | (simp only [List.length_drop, List.length_take]; rfl)) ?_; (with_reducible refine (laws_moderate.calls kj6 _ _ y248 true _ ?side1 ?side2 A12.out).mono ?_); (case side1 => repeat (first | exact (Kd.N_reads' HO250.out).2.2 | (with_reducible refine Kd.C_alloc ?_ _) | (with_reducible refine Kd.C_drewN ?_ _) | (with_reducible refine Kd.C_drew ?_))); (case side2 => exact (Kd.N_reads' HO250.out).2.1); rintro e w' ⟨rfl, ⟨nd, rfl⟩⟩; refine ⟨_, rfl, ?_⟩) | ((with_reducible refine gate_callee (f := 15) rfl ?_); refine goesL_ (some 35) rfl rfl Tryd.func15 (by kernel_rfl) rfl #[.slice A0 l0.length c0, .slice A1 l1.length c1] rfl (by (try simp only [List.map_toArray, List.map_cons, List.map_nil]); first | done | rfl | (simp only [List.length_drop, List.length_take]; rfl)) ?_; (with_reducible refine (impl_Augment.calls kj6 _ _ l0 _ _ l1 t252 t253 _ ?side5 ?side1 ?side2 ?side3 ?side4 A14.out).mono ?_); (case side1 => repeat (first | exact (Kd.V_reads' HO_0.out).2.2 | (with_reducible refine Kd.C_alloc ?_ _) | (with_reducible refine Kd.C_drewN ?_ _) | (with_reducible refine Kd.C_drew ?_))); (case side2 => exact (Kd.V_reads' HO_0.out).2.1); (case side3 => repeat (first | exact (Kd.V_reads' HO_1.out).2.2 | (with_reducible refine Kd.C_alloc ?_ _) | (with_reducible refine Kd.C_drewN ?_ _) | (with_reducible refine Kd.C_drew ?_))); (case side4 => exact (Kd.V_reads' HO_1.out).2.1); (case side5 => exact GlobE.below hGE (by repeat (first | (with_reducible first | exact HB.out | apply below_alloc | apply pw_below_drewN | apply below_drew1) | exact HB.out))); rintro e w19 ⟨v254, rfl, ho0, hb⟩; refine ⟨_, rfl, ?_⟩; have n0_ := Aside0.mk (Kd.V_elder' (by (with_reducible repeat (first | apply Kd.V_alloc | apply Kd.V_drewN | apply Kd.V_drew)); exact HO_0.out) (by first | exact Kd.N_base ho0 | exact Kd.S_base ho0 | exact Kd.N_base (Kd.S_N (Kd.S_bound ho0))) hb); have n1_ := Aside0.mk (Kd.V_elder' (by (with_reducible repeat (first | apply Kd.V_alloc | apply Kd.V_drewN | apply Kd.V_drew)); exact HO_1.out) (by first | exact Kd.N_base ho0 | exact Kd.S_base ho0 | exact Kd.N_base (Kd.S_N (Kd.S_bound ho0))) hb); have n2_ := Aside0.mk (Kd.N_elder' (by (with_reducible repeat (first | apply Kd.N_alloc | apply Kd.N_drewN | apply Kd.N_drew)); exact HO250.out) (by first | exact Kd.N_base ho0 | exact Kd.S_base ho0 | exact Kd.N_base (Kd.S_N (Kd.S_bound ho0))) hb); have n3_ := Aside0.mk (Kd.N_lower (Kd.N_mono (ok' := fun k_ => ((P0_ k_ ∨ P1_ k_) ∨ w.heap.size ≤ k_) ∧ some k_ ≠ (.slice Ao18 y248.length co18 : Value).ownBlock) (Kd.S_N (Kd.S_bound ho0)) (fun k_ hk_ => ⟨(.inr (Nat.le_trans (below_size (by repeat (first | (with_reducible first | exact HB.out | apply below_alloc | apply pw_below_drewN | apply below_drew1) | exact HB.out))) hk_.2.1)), (Kd.fresh' (Kd.N_lt (by (with_reducible repeat (first | apply Kd.N_alloc | apply Kd.N_drewN | apply Kd.N_drew)); exact HO250.out)) k_ hk_.2.1)⟩)) (below_size (by repeat (first | (with_reducible first | exact HB.out | apply below_alloc | apply pw_below_drewN | apply below_drew1) | exact HB.out)))); have n4_ := Aside0.mk (below_step (by repeat (first | (with_reducible first | exact HB.out | apply below_alloc | apply pw_below_drewN | apply below_drew1) | exact HB.out)) hb); clear HO_0; clear HO_1; clear HO250; clear HB; have HO_0 := n0_; have HO_1 := n1_; have HO250 := n2_; have HO255 := n3_; have HB := n4_; clear n0_ n1_ n2_ n3_ n4_; (try clear hb); (try clear hb2); (try clear hk); (try clear hi); (try clear ho0)))
          (try simp only [Act.put, List.setIfInBounds_toArray, List.set_cons_zero, List.set_cons_succ])
          go_cut [15] (fun v15 wc => ∃ (kq : Nat) (x15_14 : Bool), v15 = .bool x15_14 ∧ Aside0 (laws_FnMatrixParts.j1 kq l0 l1 a2 a3 a4 a5 t252 t253 x15_14 = some r) ∧ Aside0 (kq ≤ kj6) ∧ Aside0 (Kd.V (Kd.slice 5 (Kd.int .u8)) 22 wc w.heap.size (fun k_ => ((P0_ k_ ∨ P1_ k_) ∨ w.heap.size ≤ k_) ∧ some k_ ≠ (v254 : Value).ownBlock) (.slice A0 l0.length c0) l0) ∧ Aside0 (Kd.V (Kd.slice 5 (Kd.int .u8)) 22 wc w.heap.size (fun k_ => ((P0_ k_ ∨ P1_ k_) ∨ w.heap.size ≤ k_) ∧ some k_ ≠ (v254 : Value).ownBlock) (.slice A1 l1.length c1) l1) ∧ Aside0 (Kd.N (Kd.slice 5 (Kd.int .u8)) 22 wc w.heap.size (fun k_ => ((P0_ k_ ∨ P1_ k_) ∨ w.heap.size ≤ k_)) v254 t252) ∧ Aside0 (Below w.heap.size w wc))
          case first =>
            have H := HC15.out
            clear HC15
            replace H := Option.bind_eq_some_iff.mp H
            obtain ⟨t256, A200, H⟩ := H
            replace H : (if t256 = true then ((spec_Rectangular.f kj6 l1).bind fun t257 => (if t257 = true then (laws_FnMatrixParts.j1 kj6 l0 l1 a2 a3 a4 a5 t252 t253 ((l0.length : Int) == (l1.length : Int))) else (laws_FnMatrixParts.j1 kj6 l0 l1 a2 a3 a4 a5 t252 t253 false))) else (laws_FnMatrixParts.j1 kj6 l0 l1 a2 a3 a4 a5 t252 t253 false)) = some r := H
            have A20 := Aside0.mk A200
            clear A200
            by_cases c21 : t256 = true
            · subst c21
              have H1 : ((spec_Rectangular.f kj6 l1).bind fun t257 => (if t257 = true then (laws_FnMatrixParts.j1 kj6 l0 l1 a2 a3 a4 a5 t252 t253 ((l0.length : Int) == (l1.length : Int))) else (laws_FnMatrixParts.j1 kj6 l0 l1 a2 a3 a4 a5 t252 t253 false))) = some r := by rw [if_pos rfl] at H; exact H
              clear H
              have H := H1
              clear H1
              replace H := Option.bind_eq_some_iff.mp H
              obtain ⟨t257, A220, H⟩ := H
              replace H : (if t257 = true then (laws_FnMatrixParts.j1 kj6 l0 l1 a2 a3 a4 a5 t252 t253 ((l0.length : Int) == (l1.length : Int))) else (laws_FnMatrixParts.j1 kj6 l0 l1 a2 a3 a4 a5 t252 t253 false)) = some r := H
              have A22 := Aside0.mk A220
              clear A220
              by_cases c23 : t257 = true
              · subst c23
                have H1 : (laws_FnMatrixParts.j1 kj6 l0 l1 a2 a3 a4 a5 t252 t253 ((l0.length : Int) == (l1.length : Int))) = some r := by rw [if_pos rfl] at H; exact H
                clear H
                have H := H1
                clear H1
                have H' := Aside0.mk H
                clear H
                go_wp2_with (first | ((with_reducible refine gate_callee (f := 16) rfl ?_); refine goesL_ (some 39) rfl rfl Tryd.func16 (by kernel_rfl) rfl #[.slice A0 l0.length c0] rfl (by (try simp only [List.map_toArray, List.map_cons, List.map_nil]); first | done | rfl | (simp only [List.length_drop, List.length_take]; rfl)) ?_; (with_reducible refine (spec_Rectangular.calls kj6 _ _ l0 true _ ?side1 ?side2 A20.out).mono ?_); (case side1 => repeat (first | exact (Kd.V_reads' HO_0.out).2.2 | (with_reducible refine Kd.C_alloc ?_ _) | (with_reducible refine Kd.C_drewN ?_ _) | (with_reducible refine Kd.C_drew ?_))); (case side2 => exact (Kd.V_reads' HO_0.out).2.1); rintro e w' ⟨rfl, ⟨nd, rfl⟩⟩; refine ⟨_, rfl, ?_⟩) | (go_at_call 16; (with_reducible refine (spec_Rectangular.calls kj6 _ _ l1 true _ ?side1 ?side2 A22.out).mono ?_); (case side1 => repeat (first | exact (Kd.V_reads' HO_1.out).2.2 | (with_reducible refine Kd.C_alloc ?_ _) | (with_reducible refine Kd.C_drewN ?_ _) | (with_reducible refine Kd.C_drew ?_))); (case side2 => exact (Kd.V_reads' HO_1.out).2.1); rintro e w' ⟨rfl, ⟨nd, rfl⟩⟩))
                go_meet
                case rel => exact ⟨_, (((l0.length : Int) == (l1.length : Int))), (by first | rfl | (simp; done) | (simp [*]; done)), H', ⟨by have := HJ6.out; first | omega | exact Nat.le_refl _⟩, ⟨by (with_reducible repeat (first | apply Kd.V_alloc | apply Kd.V_drewN | apply Kd.V_drew)); exact Kd.V_mono HO_0.out (fun _ hk => ⟨hk.1.1, hk.2⟩)⟩, ⟨by (with_reducible repeat (first | apply Kd.V_alloc | apply Kd.V_drewN | apply Kd.V_drew)); exact Kd.V_mono HO_1.out (fun _ hk => ⟨hk.1.1, hk.2⟩)⟩, ⟨by (with_reducible repeat (first | apply Kd.N_alloc | apply Kd.N_drewN | apply Kd.N_drew)); exact Kd.N_mono HO255.out (fun _ hk => hk.1)⟩, ⟨by repeat (first | (with_reducible first | exact HB.out | apply below_alloc | apply pw_below_drewN | apply below_drew1) | exact HB.out)⟩⟩
              · replace c23 := Bool.eq_false_iff.mpr c23
                subst c23
                have H1 : (laws_FnMatrixParts.j1 kj6 l0 l1 a2 a3 a4 a5 t252 t253 false) = some r := by rw [if_neg (show ¬ (false = true) by decide)] at H; exact H
                clear H
                have H := H1
                clear H1
                have H' := Aside0.mk H
                clear H
                go_wp2_with (first | ((with_reducible refine gate_callee (f := 16) rfl ?_); refine goesL_ (some 39) rfl rfl Tryd.func16 (by kernel_rfl) rfl #[.slice A0 l0.length c0] rfl (by (try simp only [List.map_toArray, List.map_cons, List.map_nil]); first | done | rfl | (simp only [List.length_drop, List.length_take]; rfl)) ?_; (with_reducible refine (spec_Rectangular.calls kj6 _ _ l0 true _ ?side1 ?side2 A20.out).mono ?_); (case side1 => repeat (first | exact (Kd.V_reads' HO_0.out).2.2 | (with_reducible refine Kd.C_alloc ?_ _) | (with_reducible refine Kd.C_drewN ?_ _) | (with_reducible refine Kd.C_drew ?_))); (case side2 => exact (Kd.V_reads' HO_0.out).2.1); rintro e w' ⟨rfl, ⟨nd, rfl⟩⟩; refine ⟨_, rfl, ?_⟩) | (go_at_call 16; (with_reducible refine (spec_Rectangular.calls kj6 _ _ l1 false _ ?side1 ?side2 A22.out).mono ?_); (case side1 => repeat (first | exact (Kd.V_reads' HO_1.out).2.2 | (with_reducible refine Kd.C_alloc ?_ _) | (with_reducible refine Kd.C_drewN ?_ _) | (with_reducible refine Kd.C_drew ?_))); (case side2 => exact (Kd.V_reads' HO_1.out).2.1); rintro e w' ⟨rfl, ⟨nd, rfl⟩⟩))
                go_meet
                case rel => exact ⟨_, (false), (by first | rfl | (simp; done) | (simp [*]; done)), H', ⟨by have := HJ6.out; first | omega | exact Nat.le_refl _⟩, ⟨by (with_reducible repeat (first | apply Kd.V_alloc | apply Kd.V_drewN | apply Kd.V_drew)); exact Kd.V_mono HO_0.out (fun _ hk => ⟨hk.1.1, hk.2⟩)⟩, ⟨by (with_reducible repeat (first | apply Kd.V_alloc | apply Kd.V_drewN | apply Kd.V_drew)); exact Kd.V_mono HO_1.out (fun _ hk => ⟨hk.1.1, hk.2⟩)⟩, ⟨by (with_reducible repeat (first | apply Kd.N_alloc | apply Kd.N_drewN | apply Kd.N_drew)); exact Kd.N_mono HO255.out (fun _ hk => hk.1)⟩, ⟨by repeat (first | (with_reducible first | exact HB.out | apply below_alloc | apply pw_below_drewN | apply below_drew1) | exact HB.out)⟩⟩
            · replace c21 := Bool.eq_false_iff.mpr c21
              subst c21
              have H1 : (laws_FnMatrixParts.j1 kj6 l0 l1 a2 a3 a4 a5 t252 t253 false) = some r := by rw [if_neg (show ¬ (false = true) by decide)] at H; exact H
              clear H
              have H := H1
              clear H1
              have H' := Aside0.mk H
              clear H
              go_wp2_with (first | ((with_reducible refine gate_callee (f := 16) rfl ?_); refine goesL_ (some 39) rfl rfl Tryd.func16 (by kernel_rfl) rfl #[.slice A0 l0.length c0] rfl (by (try simp only [List.map_toArray, List.map_cons, List.map_nil]); first | done | rfl | (simp only [List.length_drop, List.length_take]; rfl)) ?_; (with_reducible refine (spec_Rectangular.calls kj6 _ _ l0 false _ ?side1 ?side2 A20.out).mono ?_); (case side1 => repeat (first | exact (Kd.V_reads' HO_0.out).2.2 | (with_reducible refine Kd.C_alloc ?_ _) | (with_reducible refine Kd.C_drewN ?_ _) | (with_reducible refine Kd.C_drew ?_))); (case side2 => exact (Kd.V_reads' HO_0.out).2.1); rintro e w' ⟨rfl, ⟨nd, rfl⟩⟩; refine ⟨_, rfl, ?_⟩))
              go_meet
              case rel => exact ⟨_, (false), (by first | rfl | (simp; done) | (simp [*]; done)), H', ⟨by have := HJ6.out; first | omega | exact Nat.le_refl _⟩, ⟨by (with_reducible repeat (first | apply Kd.V_alloc | apply Kd.V_drewN | apply Kd.V_drew)); exact Kd.V_mono HO_0.out (fun _ hk => ⟨hk.1.1, hk.2⟩)⟩, ⟨by (with_reducible repeat (first | apply Kd.V_alloc | apply Kd.V_drewN | apply Kd.V_drew)); exact Kd.V_mono HO_1.out (fun _ hk => ⟨hk.1.1, hk.2⟩)⟩, ⟨by (with_reducible repeat (first | apply Kd.N_alloc | apply Kd.N_drewN | apply Kd.N_drew)); exact Kd.N_mono HO255.out (fun _ hk => hk.1)⟩, ⟨by repeat (first | (with_reducible first | exact HB.out | apply below_alloc | apply pw_below_drewN | apply below_drew1) | exact HB.out)⟩⟩
          case rest =>
            clear HC15
            try clear c1
            try clear c2
            try clear p2
            try clear c6
            try clear c9
            try clear c11
            try clear c13
            try clear c14
            try clear c15
            try clear c16
            try clear c21
            try clear c23
            try clear p2
            obtain ⟨kq, x15_14, rfl, HA, HJ14, HO_0, HO_1, HO_13, HB⟩ := hcut
            cases kq with
            | zero => exact absurd HA.out (by simp [laws_FnMatrixParts.j1])
            | succ kj14 =>
              have H := HA.out
              clear HA
              simp only [laws_FnMatrixParts.j1] at H
              replace H := Option.bind_eq_some_iff.mp H
              obtain ⟨⟨t258, t259⟩, A240, H⟩ := H
              replace H : ((spec_Rectangular.f kj14 l0).bind fun t262 => (if t262 = true then (if 0 ≤ a2 then (if a2 < a4 then (if a4 ≤ (l0.length : Int) then (if 0 ≤ a3 then (if a3 < a5 then ((spec_Columns.f l0).bind fun t263 => (laws_FnMatrixParts.j2 kj14 l0 l1 a2 a3 a4 a5 t252 t253 x15_14 t258 t259 (decide (a5 ≤ t263)))) else (laws_FnMatrixParts.j2 kj14 l0 l1 a2 a3 a4 a5 t252 t253 x15_14 t258 t259 false)) else (laws_FnMatrixParts.j2 kj14 l0 l1 a2 a3 a4 a5 t252 t253 x15_14 t258 t259 false)) else (laws_FnMatrixParts.j2 kj14 l0 l1 a2 a3 a4 a5 t252 t253 x15_14 t258 t259 false)) else (laws_FnMatrixParts.j2 kj14 l0 l1 a2 a3 a4 a5 t252 t253 x15_14 t258 t259 false)) else (laws_FnMatrixParts.j2 kj14 l0 l1 a2 a3 a4 a5 t252 t253 x15_14 t258 t259 false)) else (laws_FnMatrixParts.j2 kj14 l0 l1 a2 a3 a4 a5 t252 t253 x15_14 t258 t259 false))) = some r := H
              have A24 := Aside0.mk A240
              clear A240
              have HC25 := Aside0.mk H
              clear H
              go_upto_region 8 with (first | ((with_reducible refine gate_callee (f := 17) rfl ?_); refine goesL_ (some 57) rfl rfl Tryd.func17 (by kernel_rfl) rfl #[.slice A0 l0.length c0, .int .i64 a2, .int .i64 a3, .int .i64 a4, .int .i64 a5] rfl (by (try simp only [List.map_toArray, List.map_cons, List.map_nil]); first | done | rfl | (simp only [List.length_drop, List.length_take]; rfl)) ?_; (with_reducible refine (impl_SubMatrix.calls kj14 _ _ l0 a2 a3 a4 a5 t258 t259 _ ?side3 ?side1 ?side2 A24.out).mono ?_); (case side1 => repeat (first | exact (Kd.V_reads' HO_0.out).2.2 | (with_reducible refine Kd.C_alloc ?_ _) | (with_reducible refine Kd.C_drewN ?_ _) | (with_reducible refine Kd.C_drew ?_))); (case side2 => exact (Kd.V_reads' HO_0.out).2.1); (case side3 => exact GlobE.below hGE (by repeat (first | (with_reducible first | exact HB.out | apply below_alloc | apply pw_below_drewN | apply below_drew1) | exact HB.out))); rintro e w26 ⟨v260, rfl, ho0, hb⟩; refine ⟨_, rfl, ?_⟩; have n0_ := Aside0.mk (Kd.V_elder' (by (with_reducible repeat (first | apply Kd.V_alloc | apply Kd.V_drewN | apply Kd.V_drew)); exact HO_0.out) (by first | exact Kd.N_base ho0 | exact Kd.S_base ho0 | exact Kd.N_base (Kd.S_N (Kd.S_bound ho0))) hb); have n1_ := Aside0.mk (Kd.V_elder' (by (with_reducible repeat (first | apply Kd.V_alloc | apply Kd.V_drewN | apply Kd.V_drew)); exact HO_1.out) (by first | exact Kd.N_base ho0 | exact Kd.S_base ho0 | exact Kd.N_base (Kd.S_N (Kd.S_bound ho0))) hb); have n2_ := Aside0.mk (Kd.N_elder' (by (with_reducible repeat (first | apply Kd.N_alloc | apply Kd.N_drewN | apply Kd.N_drew)); exact HO_13.out) (by first | exact Kd.N_base ho0 | exact Kd.S_base ho0 | exact Kd.N_base (Kd.S_N (Kd.S_bound ho0))) hb); have n3_ := Aside0.mk (Kd.N_lower (Kd.N_mono (ok' := fun k_ => ((P0_ k_ ∨ P1_ k_) ∨ w.heap.size ≤ k_) ∧ some k_ ≠ (v254 : Value).ownBlock) (Kd.S_N (Kd.S_bound ho0)) (fun k_ hk_ => ⟨(.inr (Nat.le_trans (below_size (by repeat (first | (with_reducible first | exact HB.out | apply below_alloc | apply pw_below_drewN | apply below_drew1) | exact HB.out))) hk_.2.1)), (Kd.fresh' (Kd.N_lt (by (with_reducible repeat (first | apply Kd.N_alloc | apply Kd.N_drewN | apply Kd.N_drew)); exact HO_13.out)) k_ hk_.2.1)⟩)) (below_size (by repeat (first | (with_reducible first | exact HB.out | apply below_alloc | apply pw_below_drewN | apply below_drew1) | exact HB.out)))); have n4_ := Aside0.mk (below_step (by repeat (first | (with_reducible first | exact HB.out | apply below_alloc | apply pw_below_drewN | apply below_drew1) | exact HB.out)) hb); clear HO_0; clear HO_1; clear HO_13; clear HB; have HO_0 := n0_; have HO_1 := n1_; have HO_13 := n2_; have HO261 := n3_; have HB := n4_; clear n0_ n1_ n2_ n3_ n4_; (try clear hb); (try clear hb2); (try clear hk); (try clear hi); (try clear ho0)))
              (try simp only [Act.put, List.setIfInBounds_toArray, List.set_cons_zero, List.set_cons_succ])
              go_cut [18] (fun v18 wc => ∃ (kq : Nat) (x18_24 : Bool), v18 = .bool x18_24 ∧ Aside0 (laws_FnMatrixParts.j2 kq l0 l1 a2 a3 a4 a5 t252 t253 x15_14 t258 t259 x18_24 = some r) ∧ Aside0 (kq ≤ kj14) ∧ Aside0 (Kd.V (Kd.slice 5 (Kd.int .u8)) 22 wc w.heap.size (fun k_ => ((P0_ k_ ∨ P1_ k_) ∨ w.heap.size ≤ k_) ∧ some k_ ≠ (v254 : Value).ownBlock ∧ some k_ ≠ (v260 : Value).ownBlock) (.slice A0 l0.length c0) l0) ∧ Aside0 (Kd.V (Kd.slice 5 (Kd.int .u8)) 22 wc w.heap.size (fun k_ => ((P0_ k_ ∨ P1_ k_) ∨ w.heap.size ≤ k_) ∧ some k_ ≠ (v254 : Value).ownBlock ∧ some k_ ≠ (v260 : Value).ownBlock) (.slice A1 l1.length c1) l1) ∧ Aside0 (Kd.N (Kd.slice 5 (Kd.int .u8)) 22 wc w.heap.size (fun k_ => ((P0_ k_ ∨ P1_ k_) ∨ w.heap.size ≤ k_) ∧ some k_ ≠ (v260 : Value).ownBlock) v254 t252) ∧ Aside0 (Kd.N (Kd.slice 5 (Kd.int .u8)) 22 wc w.heap.size (fun k_ => ((P0_ k_ ∨ P1_ k_) ∨ w.heap.size ≤ k_) ∧ some k_ ≠ (v254 : Value).ownBlock) v260 t258) ∧ Aside0 (Below w.heap.size w wc))
              case first =>
                have H := HC25.out
                clear HC25
                replace H := Option.bind_eq_some_iff.mp H
                obtain ⟨t262, A270, H⟩ := H
                replace H : (if t262 = true then (if 0 ≤ a2 then (if a2 < a4 then (if a4 ≤ (l0.length : Int) then (if 0 ≤ a3 then (if a3 < a5 then ((spec_Columns.f l0).bind fun t263 => (laws_FnMatrixParts.j2 kj14 l0 l1 a2 a3 a4 a5 t252 t253 x15_14 t258 t259 (decide (a5 ≤ t263)))) else (laws_FnMatrixParts.j2 kj14 l0 l1 a2 a3 a4 a5 t252 t253 x15_14 t258 t259 false)) else (laws_FnMatrixParts.j2 kj14 l0 l1 a2 a3 a4 a5 t252 t253 x15_14 t258 t259 false)) else (laws_FnMatrixParts.j2 kj14 l0 l1 a2 a3 a4 a5 t252 t253 x15_14 t258 t259 false)) else (laws_FnMatrixParts.j2 kj14 l0 l1 a2 a3 a4 a5 t252 t253 x15_14 t258 t259 false)) else (laws_FnMatrixParts.j2 kj14 l0 l1 a2 a3 a4 a5 t252 t253 x15_14 t258 t259 false)) else (laws_FnMatrixParts.j2 kj14 l0 l1 a2 a3 a4 a5 t252 t253 x15_14 t258 t259 false)) = some r := H
                have A27 := Aside0.mk A270
                clear A270
                by_cases c28 : t262 = true
                · subst c28
                  have H1 : (if 0 ≤ a2 then (if a2 < a4 then (if a4 ≤ (l0.length : Int) then (if 0 ≤ a3 then (if a3 < a5 then ((spec_Columns.f l0).bind fun t263 => (laws_FnMatrixParts.j2 kj14 l0 l1 a2 a3 a4 a5 t252 t253 x15_14 t258 t259 (decide (a5 ≤ t263)))) else (laws_FnMatrixParts.j2 kj14 l0 l1 a2 a3 a4 a5 t252 t253 x15_14 t258 t259 false)) else (laws_FnMatrixParts.j2 kj14 l0 l1 a2 a3 a4 a5 t252 t253 x15_14 t258 t259 false)) else (laws_FnMatrixParts.j2 kj14 l0 l1 a2 a3 a4 a5 t252 t253 x15_14 t258 t259 false)) else (laws_FnMatrixParts.j2 kj14 l0 l1 a2 a3 a4 a5 t252 t253 x15_14 t258 t259 false)) else (laws_FnMatrixParts.j2 kj14 l0 l1 a2 a3 a4 a5 t252 t253 x15_14 t258 t259 false)) = some r := by rw [if_pos rfl] at H; exact H
                  clear H
                  have H := H1
                  clear H1
                  by_cases c29 : 0 ≤ a2
                  · rw [if_pos c29] at H
                    have c29b0 : decide (0 ≤ a2) = true := decide_eq_true c29
                    clear c29
                    (first | rw [c29b0] | (simp only [i64_w, i32_w]; rw [c29b0]) | skip)
                    by_cases c30 : a2 < a4
                    · rw [if_pos c30] at H
                      have c30b0 : decide (a2 < a4) = true := decide_eq_true c30
                      clear c30
                      by_cases c31 : a4 ≤ (l0.length : Int)
                      · rw [if_pos c31] at H
                        have c31b0 : decide (a4 ≤ (l0.length : Int)) = true := decide_eq_true c31
                        clear c31
                        by_cases c32 : 0 ≤ a3
                        · rw [if_pos c32] at H
                          have c32b0 : decide (0 ≤ a3) = true := decide_eq_true c32
                          clear c32
                          by_cases c33 : a3 < a5
                          · rw [if_pos c33] at H
                            have c33b0 : decide (a3 < a5) = true := decide_eq_true c33
                            clear c33
                            replace H := Option.bind_eq_some_iff.mp H
                            obtain ⟨t263, A340, H⟩ := H
                            replace H : (laws_FnMatrixParts.j2 kj14 l0 l1 a2 a3 a4 a5 t252 t253 x15_14 t258 t259 (decide (a5 ≤ t263))) = some r := H
                            have A34 := Aside0.mk A340
                            clear A340
                            have H' := Aside0.mk H
                            clear H
                            go_wp2_with (first | ((with_reducible refine gate_callee (f := 16) rfl ?_); refine goesL_ (some 61) rfl rfl Tryd.func16 (by kernel_rfl) rfl #[.slice A0 l0.length c0] rfl (by (try simp only [List.map_toArray, List.map_cons, List.map_nil]); first | done | rfl | (simp only [List.length_drop, List.length_take]; rfl)) ?_; (with_reducible refine (spec_Rectangular.calls kj14 _ _ l0 true _ ?side1 ?side2 A27.out).mono ?_); (case side1 => repeat (first | exact (Kd.V_reads' HO_0.out).2.2 | (with_reducible refine Kd.C_alloc ?_ _) | (with_reducible refine Kd.C_drewN ?_ _) | (with_reducible refine Kd.C_drew ?_))); (case side2 => exact (Kd.V_reads' HO_0.out).2.1); rintro e w' ⟨rfl, ⟨nd, rfl⟩⟩; refine ⟨_, rfl, ?_⟩) | (go_at_call 18; (with_reducible refine (spec_Columns.calls _ _ l0 t263 _ ?side1 ?side2 A34.out).mono ?_); (case side1 => repeat (first | exact (Kd.V_reads' HO_0.out).2.2 | (with_reducible refine Kd.C_alloc ?_ _) | (with_reducible refine Kd.C_drewN ?_ _) | (with_reducible refine Kd.C_drew ?_))); (case side2 => exact (Kd.V_reads' HO_0.out).2.1); rintro e w' ⟨rfl, ⟨nd, rfl⟩⟩))
                            go_meet
                            case rel => exact ⟨_, (decide (a5 ≤ t263)), (by first | rfl | (simp; done) | (simp [*]; done)), H', ⟨by have := HJ6.out; have := HJ14.out; first | omega | exact Nat.le_refl _⟩, ⟨by (with_reducible repeat (first | apply Kd.V_alloc | apply Kd.V_drewN | apply Kd.V_drew)); exact Kd.V_mono HO_0.out (fun _ hk => ⟨hk.1.1, ⟨hk.1.2, hk.2⟩⟩)⟩, ⟨by (with_reducible repeat (first | apply Kd.V_alloc | apply Kd.V_drewN | apply Kd.V_drew)); exact Kd.V_mono HO_1.out (fun _ hk => ⟨hk.1.1, ⟨hk.1.2, hk.2⟩⟩)⟩, ⟨by (with_reducible repeat (first | apply Kd.N_alloc | apply Kd.N_drewN | apply Kd.N_drew)); exact HO_13.out⟩, ⟨by (with_reducible repeat (first | apply Kd.N_alloc | apply Kd.N_drewN | apply Kd.N_drew)); exact HO261.out⟩, ⟨by repeat (first | (with_reducible first | exact HB.out | apply below_alloc | apply pw_below_drewN | apply below_drew1) | exact HB.out)⟩⟩
                          · rw [if_neg c33] at H
                            have c33b0 : decide (a3 < a5) = false := decide_eq_false c33
                            clear c33
                            have H' := Aside0.mk H
                            clear H
                            go_wp2_with (first | ((with_reducible refine gate_callee (f := 16) rfl ?_); refine goesL_ (some 61) rfl rfl Tryd.func16 (by kernel_rfl) rfl #[.slice A0 l0.length c0] rfl (by (try simp only [List.map_toArray, List.map_cons, List.map_nil]); first | done | rfl | (simp only [List.length_drop, List.length_take]; rfl)) ?_; (with_reducible refine (spec_Rectangular.calls kj14 _ _ l0 true _ ?side1 ?side2 A27.out).mono ?_); (case side1 => repeat (first | exact (Kd.V_reads' HO_0.out).2.2 | (with_reducible refine Kd.C_alloc ?_ _) | (with_reducible refine Kd.C_drewN ?_ _) | (with_reducible refine Kd.C_drew ?_))); (case side2 => exact (Kd.V_reads' HO_0.out).2.1); rintro e w' ⟨rfl, ⟨nd, rfl⟩⟩; refine ⟨_, rfl, ?_⟩))
                            go_meet
                            case rel => exact ⟨_, (false), (by first | rfl | (simp; done) | (simp [*]; done)), H', ⟨by have := HJ6.out; have := HJ14.out; first | omega | exact Nat.le_refl _⟩, ⟨by (with_reducible repeat (first | apply Kd.V_alloc | apply Kd.V_drewN | apply Kd.V_drew)); exact Kd.V_mono HO_0.out (fun _ hk => ⟨hk.1.1, ⟨hk.1.2, hk.2⟩⟩)⟩, ⟨by (with_reducible repeat (first | apply Kd.V_alloc | apply Kd.V_drewN | apply Kd.V_drew)); exact Kd.V_mono HO_1.out (fun _ hk => ⟨hk.1.1, ⟨hk.1.2, hk.2⟩⟩)⟩, ⟨by (with_reducible repeat (first | apply Kd.N_alloc | apply Kd.N_drewN | apply Kd.N_drew)); exact HO_13.out⟩, ⟨by (with_reducible repeat (first | apply Kd.N_alloc | apply Kd.N_drewN | apply Kd.N_drew)); exact HO261.out⟩, ⟨by repeat (first | (with_reducible first | exact HB.out | apply below_alloc | apply pw_below_drewN | apply below_drew1) | exact HB.out)⟩⟩
                        · rw [if_neg c32] at H
                          have c32b0 : decide (0 ≤ a3) = false := decide_eq_false c32
                          clear c32
                          have H' := Aside0.mk H
                          clear H
                          go_wp2_with (first | ((with_reducible refine gate_callee (f := 16) rfl ?_); refine goesL_ (some 61) rfl rfl Tryd.func16 (by kernel_rfl) rfl #[.slice A0 l0.length c0] rfl (by (try simp only [List.map_toArray, List.map_cons, List.map_nil]); first | done | rfl | (simp only [List.length_drop, List.length_take]; rfl)) ?_; (with_reducible refine (spec_Rectangular.calls kj14 _ _ l0 true _ ?side1 ?side2 A27.out).mono ?_); (case side1 => repeat (first | exact (Kd.V_reads' HO_0.out).2.2 | (with_reducible refine Kd.C_alloc ?_ _) | (with_reducible refine Kd.C_drewN ?_ _) | (with_reducible refine Kd.C_drew ?_))); (case side2 => exact (Kd.V_reads' HO_0.out).2.1); rintro e w' ⟨rfl, ⟨nd, rfl⟩⟩; refine ⟨_, rfl, ?_⟩))
                          go_meet
                          case rel => exact ⟨_, (false), (by first | rfl | (simp; done) | (simp [*]; done)), H', ⟨by have := HJ6.out; have := HJ14.out; first | omega | exact Nat.le_refl _⟩, ⟨by (with_reducible repeat (first | apply Kd.V_alloc | apply Kd.V_drewN | apply Kd.V_drew)); exact Kd.V_mono HO_0.out (fun _ hk => ⟨hk.1.1, ⟨hk.1.2, hk.2⟩⟩)⟩, ⟨by (with_reducible repeat (first | apply Kd.V_alloc | apply Kd.V_drewN | apply Kd.V_drew)); exact Kd.V_mono HO_1.out (fun _ hk => ⟨hk.1.1, ⟨hk.1.2, hk.2⟩⟩)⟩, ⟨by (with_reducible repeat (first | apply Kd.N_alloc | apply Kd.N_drewN | apply Kd.N_drew)); exact HO_13.out⟩, ⟨by (with_reducible repeat (first | apply Kd.N_alloc | apply Kd.N_drewN | apply Kd.N_drew)); exact HO261.out⟩, ⟨by repeat (first | (with_reducible first | exact HB.out | apply below_alloc | apply pw_below_drewN | apply below_drew1) | exact HB.out)⟩⟩
                      · rw [if_neg c31] at H
                        have c31b0 : decide (a4 ≤ (l0.length : Int)) = false := decide_eq_false c31
                        clear c31
                        have H' := Aside0.mk H
                        clear H
                        go_wp2_with (first | ((with_reducible refine gate_callee (f := 16) rfl ?_); refine goesL_ (some 61) rfl rfl Tryd.func16 (by kernel_rfl) rfl #[.slice A0 l0.length c0] rfl (by (try simp only [List.map_toArray, List.map_cons, List.map_nil]); first | done | rfl | (simp only [List.length_drop, List.length_take]; rfl)) ?_; (with_reducible refine (spec_Rectangular.calls kj14 _ _ l0 true _ ?side1 ?side2 A27.out).mono ?_); (case side1 => repeat (first | exact (Kd.V_reads' HO_0.out).2.2 | (with_reducible refine Kd.C_alloc ?_ _) | (with_reducible refine Kd.C_drewN ?_ _) | (with_reducible refine Kd.C_drew ?_))); (case side2 => exact (Kd.V_reads' HO_0.out).2.1); rintro e w' ⟨rfl, ⟨nd, rfl⟩⟩; refine ⟨_, rfl, ?_⟩))
                        go_meet
                        case rel => exact ⟨_, (false), (by first | rfl | (simp; done) | (simp [*]; done)), H', ⟨by have := HJ6.out; have := HJ14.out; first | omega | exact Nat.le_refl _⟩, ⟨by (with_reducible repeat (first | apply Kd.V_alloc | apply Kd.V_drewN | apply Kd.V_drew)); exact Kd.V_mono HO_0.out (fun _ hk => ⟨hk.1.1, ⟨hk.1.2, hk.2⟩⟩)⟩, ⟨by (with_reducible repeat (first | apply Kd.V_alloc | apply Kd.V_drewN | apply Kd.V_drew)); exact Kd.V_mono HO_1.out (fun _ hk => ⟨hk.1.1, ⟨hk.1.2, hk.2⟩⟩)⟩, ⟨by (with_reducible repeat (first | apply Kd.N_alloc | apply Kd.N_drewN | apply Kd.N_drew)); exact HO_13.out⟩, ⟨by (with_reducible repeat (first | apply Kd.N_alloc | apply Kd.N_drewN | apply Kd.N_drew)); exact HO261.out⟩, ⟨by repeat (first | (with_reducible first | exact HB.out | apply below_alloc | apply pw_below_drewN | apply below_drew1) | exact HB.out)⟩⟩
                    · rw [if_neg c30] at H
                      have c30b0 : decide (a2 < a4) = false := decide_eq_false c30
                      clear c30
                      have H' := Aside0.mk H
                      clear H
                      go_wp2_with (first | ((with_reducible refine gate_callee (f := 16) rfl ?_); refine goesL_ (some 61) rfl rfl Tryd.func16 (by kernel_rfl) rfl #[.slice A0 l0.length c0] rfl (by (try simp only [List.map_toArray, List.map_cons, List.map_nil]); first | done | rfl | (simp only [List.length_drop, List.length_take]; rfl)) ?_; (with_reducible refine (spec_Rectangular.calls kj14 _ _ l0 true _ ?side1 ?side2 A27.out).mono ?_); (case side1 => repeat (first | exact (Kd.V_reads' HO_0.out).2.2 | (with_reducible refine Kd.C_alloc ?_ _) | (with_reducible refine Kd.C_drewN ?_ _) | (with_reducible refine Kd.C_drew ?_))); (case side2 => exact (Kd.V_reads' HO_0.out).2.1); rintro e w' ⟨rfl, ⟨nd, rfl⟩⟩; refine ⟨_, rfl, ?_⟩))
                      go_meet
                      case rel => exact ⟨_, (false), (by first | rfl | (simp; done) | (simp [*]; done)), H', ⟨by have := HJ6.out; have := HJ14.out; first | omega | exact Nat.le_refl _⟩, ⟨by (with_reducible repeat (first | apply Kd.V_alloc | apply Kd.V_drewN | apply Kd.V_drew)); exact Kd.V_mono HO_0.out (fun _ hk => ⟨hk.1.1, ⟨hk.1.2, hk.2⟩⟩)⟩, ⟨by (with_reducible repeat (first | apply Kd.V_alloc | apply Kd.V_drewN | apply Kd.V_drew)); exact Kd.V_mono HO_1.out (fun _ hk => ⟨hk.1.1, ⟨hk.1.2, hk.2⟩⟩)⟩, ⟨by (with_reducible repeat (first | apply Kd.N_alloc | apply Kd.N_drewN | apply Kd.N_drew)); exact HO_13.out⟩, ⟨by (with_reducible repeat (first | apply Kd.N_alloc | apply Kd.N_drewN | apply Kd.N_drew)); exact HO261.out⟩, ⟨by repeat (first | (with_reducible first | exact HB.out | apply below_alloc | apply pw_below_drewN | apply below_drew1) | exact HB.out)⟩⟩
                  · rw [if_neg c29] at H
                    have c29b0 : decide (0 ≤ a2) = false := decide_eq_false c29
                    clear c29
                    (first | rw [c29b0] | (simp only [i64_w, i32_w]; rw [c29b0]) | skip)
                    have H' := Aside0.mk H
                    clear H
                    go_wp2_with (first | ((with_reducible refine gate_callee (f := 16) rfl ?_); refine goesL_ (some 61) rfl rfl Tryd.func16 (by kernel_rfl) rfl #[.slice A0 l0.length c0] rfl (by (try simp only [List.map_toArray, List.map_cons, List.map_nil]); first | done | rfl | (simp only [List.length_drop, List.length_take]; rfl)) ?_; (with_reducible refine (spec_Rectangular.calls kj14 _ _ l0 true _ ?side1 ?side2 A27.out).mono ?_); (case side1 => repeat (first | exact (Kd.V_reads' HO_0.out).2.2 | (with_reducible refine Kd.C_alloc ?_ _) | (with_reducible refine Kd.C_drewN ?_ _) | (with_reducible refine Kd.C_drew ?_))); (case side2 => exact (Kd.V_reads' HO_0.out).2.1); rintro e w' ⟨rfl, ⟨nd, rfl⟩⟩; refine ⟨_, rfl, ?_⟩))
                    go_meet
                    case rel => exact ⟨_, (false), (by first | rfl | (simp; done) | (simp [*]; done)), H', ⟨by have := HJ6.out; have := HJ14.out; first | omega | exact Nat.le_refl _⟩, ⟨by (with_reducible repeat (first | apply Kd.V_alloc | apply Kd.V_drewN | apply Kd.V_drew)); exact Kd.V_mono HO_0.out (fun _ hk => ⟨hk.1.1, ⟨hk.1.2, hk.2⟩⟩)⟩, ⟨by (with_reducible repeat (first | apply Kd.V_alloc | apply Kd.V_drewN | apply Kd.V_drew)); exact Kd.V_mono HO_1.out (fun _ hk => ⟨hk.1.1, ⟨hk.1.2, hk.2⟩⟩)⟩, ⟨by (with_reducible repeat (first | apply Kd.N_alloc | apply Kd.N_drewN | apply Kd.N_drew)); exact HO_13.out⟩, ⟨by (with_reducible repeat (first | apply Kd.N_alloc | apply Kd.N_drewN | apply Kd.N_drew)); exact HO261.out⟩, ⟨by repeat (first | (with_reducible first | exact HB.out | apply below_alloc | apply pw_below_drewN | apply below_drew1) | exact HB.out)⟩⟩
                · replace c28 := Bool.eq_false_iff.mpr c28
                  subst c28
                  have H1 : (laws_FnMatrixParts.j2 kj14 l0 l1 a2 a3 a4 a5 t252 t253 x15_14 t258 t259 false) = some r := by rw [if_neg (show ¬ (false = true) by decide)] at H; exact H
                  clear H
                  have H := H1
                  clear H1
                  have H' := Aside0.mk H
                  clear H
                  go_wp2_with (first | ((with_reducible refine gate_callee (f := 16) rfl ?_); refine goesL_ (some 61) rfl rfl Tryd.func16 (by kernel_rfl) rfl #[.slice A0 l0.length c0] rfl (by (try simp only [List.map_toArray, List.map_cons, List.map_nil]); first | done | rfl | (simp only [List.length_drop, List.length_take]; rfl)) ?_; (with_reducible refine (spec_Rectangular.calls kj14 _ _ l0 false _ ?side1 ?side2 A27.out).mono ?_); (case side1 => repeat (first | exact (Kd.V_reads' HO_0.out).2.2 | (with_reducible refine Kd.C_alloc ?_ _) | (with_reducible refine Kd.C_drewN ?_ _) | (with_reducible refine Kd.C_drew ?_))); (case side2 => exact (Kd.V_reads' HO_0.out).2.1); rintro e w' ⟨rfl, ⟨nd, rfl⟩⟩; refine ⟨_, rfl, ?_⟩))
                  go_meet
                  case rel => exact ⟨_, (false), (by first | rfl | (simp; done) | (simp [*]; done)), H', ⟨by have := HJ6.out; have := HJ14.out; first | omega | exact Nat.le_refl _⟩, ⟨by (with_reducible repeat (first | apply Kd.V_alloc | apply Kd.V_drewN | apply Kd.V_drew)); exact Kd.V_mono HO_0.out (fun _ hk => ⟨hk.1.1, ⟨hk.1.2, hk.2⟩⟩)⟩, ⟨by (with_reducible repeat (first | apply Kd.V_alloc | apply Kd.V_drewN | apply Kd.V_drew)); exact Kd.V_mono HO_1.out (fun _ hk => ⟨hk.1.1, ⟨hk.1.2, hk.2⟩⟩)⟩, ⟨by (with_reducible repeat (first | apply Kd.N_alloc | apply Kd.N_drewN | apply Kd.N_drew)); exact HO_13.out⟩, ⟨by (with_reducible repeat (first | apply Kd.N_alloc | apply Kd.N_drewN | apply Kd.N_drew)); exact HO261.out⟩, ⟨by repeat (first | (with_reducible first | exact HB.out | apply below_alloc | apply pw_below_drewN | apply below_drew1) | exact HB.out)⟩⟩
              case rest =>
                clear HC25
                try clear c1
                try clear c2
                try clear p2
                try clear c3
                try clear c6
                try clear c9
                try clear c11
                try clear c13
                try clear c14
                try clear c15
                try clear c16
                try clear c17
                try clear c21
                try clear c23
                try clear c28
                try clear c29
                try clear c29b0
                try clear c30
                try clear c30b0
                try clear c31
                try clear c31b0
                try clear c32
                try clear c32b0
                try clear c33
                try clear c33b0
                try clear p2
                obtain ⟨kq, x18_24, rfl, HA, HJ24, HO_0, HO_1, HO_13, HO_16, HB⟩ := hcut
                cases kq with
                | zero => exact absurd HA.out (by simp [laws_FnMatrixParts.j2])
                | succ kj24 =>
                  have H := HA.out
                  clear HA
                  simp only [laws_FnMatrixParts.j2] at H
                  by_cases c35 : (t253 == x15_14) = true
                  · rw [if_pos c35] at H
                    have c35b0 : (t253 == x15_14) = true := c35
                    (try (have c35b1 : decide (t253 = x15_14) = true := by simpa using c35))
                    (try (have c35b2 : (t253 == x15_14) = true := by simpa using c35))
                    clear c35
                    by_cases c36 : (t259 == x18_24) = true
                    · rw [if_pos c36] at H
                      have c36b0 : (t259 == x18_24) = true := c36
                      (try (have c36b1 : decide (t259 = x18_24) = true := by simpa using c36))
                      (try (have c36b2 : (t259 == x18_24) = true := by simpa using c36))
                      clear c36
                      by_cases c37 : x15_14 = true
                      · subst c37
                        have H1 : ((spec_Beside.f kj24 l0 l1).bind fun t264 => ((spec_EqualMatrices.f kj24 t252 t264).bind fun t267 => (if t267 = true then (if x18_24 = true then ((spec_Block.f kj24 l0 a2 a3 a4 a5).bind fun t268 => ((spec_EqualMatrices.f kj24 t258 t268).bind fun t271 => (some t271))) else (some true)) else (some false)))) = some r := by rw [if_pos rfl] at H; exact H
                        clear H
                        have H := H1
                        clear H1
                        replace H := Option.bind_eq_some_iff.mp H
                        obtain ⟨t264, A380, H⟩ := H
                        replace H : ((spec_EqualMatrices.f kj24 t252 t264).bind fun t267 => (if t267 = true then (if x18_24 = true then ((spec_Block.f kj24 l0 a2 a3 a4 a5).bind fun t268 => ((spec_EqualMatrices.f kj24 t258 t268).bind fun t271 => (some t271))) else (some true)) else (some false))) = some r := H
                        have A38 := Aside0.mk A380
                        clear A380
                        replace H := Option.bind_eq_some_iff.mp H
                        obtain ⟨t267, A390, H⟩ := H
                        replace H : (if t267 = true then (if x18_24 = true then ((spec_Block.f kj24 l0 a2 a3 a4 a5).bind fun t268 => ((spec_EqualMatrices.f kj24 t258 t268).bind fun t271 => (some t271))) else (some true)) else (some false)) = some r := H
                        have A39 := Aside0.mk A390
                        clear A390
                        by_cases c40 : t267 = true
                        · subst c40
                          have H1 : (if x18_24 = true then ((spec_Block.f kj24 l0 a2 a3 a4 a5).bind fun t268 => ((spec_EqualMatrices.f kj24 t258 t268).bind fun t271 => (some t271))) else (some true)) = some r := by rw [if_pos rfl] at H; exact H
                          clear H
                          have H := H1
                          clear H1
                          by_cases c41 : x18_24 = true
                          · subst c41
                            have H1 : ((spec_Block.f kj24 l0 a2 a3 a4 a5).bind fun t268 => ((spec_EqualMatrices.f kj24 t258 t268).bind fun t271 => (some t271))) = some r := by rw [if_pos rfl] at H; exact H
                            clear H
                            have H := H1
                            clear H1
                            replace H := Option.bind_eq_some_iff.mp H
                            obtain ⟨t268, A420, H⟩ := H
                            replace H : ((spec_EqualMatrices.f kj24 t258 t268).bind fun t271 => (some t271)) = some r := H
                            have A42 := Aside0.mk A420
                            clear A420
                            replace H := Option.bind_eq_some_iff.mp H
                            obtain ⟨t271, A430, H⟩ := H
                            replace H : (some t271) = some r := H
                            have A43 := Aside0.mk A430
                            clear A430
                            obtain rfl := Option.some.inj H
                            go_wp2_with (first | (go_at_call 20; (with_reducible refine (spec_Beside.calls kj24 _ _ l0 _ _ l1 t264 _ ?side1 ?side2 ?side3 ?side4 A38.out).mono ?_); (case side1 => repeat (first | exact (Kd.V_reads' HO_0.out).2.2 | (with_reducible refine Kd.C_alloc ?_ _) | (with_reducible refine Kd.C_drewN ?_ _) | (with_reducible refine Kd.C_drew ?_))); (case side2 => exact (Kd.V_reads' HO_0.out).2.1); (case side3 => repeat (first | exact (Kd.V_reads' HO_1.out).2.2 | (with_reducible refine Kd.C_alloc ?_ _) | (with_reducible refine Kd.C_drewN ?_ _) | (with_reducible refine Kd.C_drew ?_))); (case side4 => exact (Kd.V_reads' HO_1.out).2.1); rintro e w44 ⟨v265, rfl, ho0, hb⟩; have n0_ := Aside0.mk (Kd.V_elder' (by (with_reducible repeat (first | apply Kd.V_alloc | apply Kd.V_drewN | apply Kd.V_drew)); exact HO_0.out) (by first | exact Kd.N_base ho0 | exact Kd.S_base ho0 | exact Kd.N_base (Kd.S_N (Kd.S_bound ho0))) hb); have n1_ := Aside0.mk (Kd.V_elder' (by (with_reducible repeat (first | apply Kd.V_alloc | apply Kd.V_drewN | apply Kd.V_drew)); exact HO_1.out) (by first | exact Kd.N_base ho0 | exact Kd.S_base ho0 | exact Kd.N_base (Kd.S_N (Kd.S_bound ho0))) hb); have n2_ := Aside0.mk (Kd.N_elder' (by (with_reducible repeat (first | apply Kd.N_alloc | apply Kd.N_drewN | apply Kd.N_drew)); exact HO_13.out) (by first | exact Kd.N_base ho0 | exact Kd.S_base ho0 | exact Kd.N_base (Kd.S_N (Kd.S_bound ho0))) hb); have n3_ := Aside0.mk (Kd.N_elder' (by (with_reducible repeat (first | apply Kd.N_alloc | apply Kd.N_drewN | apply Kd.N_drew)); exact HO_16.out) (by first | exact Kd.N_base ho0 | exact Kd.S_base ho0 | exact Kd.N_base (Kd.S_N (Kd.S_bound ho0))) hb); have n4_ := Aside0.mk (Kd.N_lower (Kd.N_mono (ok' := fun k_ => ((P0_ k_ ∨ P1_ k_) ∨ w.heap.size ≤ k_) ∧ some k_ ≠ (v254 : Value).ownBlock ∧ some k_ ≠ (v260 : Value).ownBlock) (Kd.S_N (Kd.S_bound ho0)) (fun k_ hk_ => ⟨(.inr (Nat.le_trans (below_size (by repeat (first | (with_reducible first | exact HB.out | apply below_alloc | apply pw_below_drewN | apply below_drew1) | exact HB.out))) hk_.2.1)), (Kd.fresh' (Kd.N_lt (by (with_reducible repeat (first | apply Kd.N_alloc | apply Kd.N_drewN | apply Kd.N_drew)); exact HO_13.out)) k_ hk_.2.1), (Kd.fresh' (Kd.N_lt (by (with_reducible repeat (first | apply Kd.N_alloc | apply Kd.N_drewN | apply Kd.N_drew)); exact HO_16.out)) k_ hk_.2.1)⟩)) (below_size (by repeat (first | (with_reducible first | exact HB.out | apply below_alloc | apply pw_below_drewN | apply below_drew1) | exact HB.out)))); have n5_ := Aside0.mk (below_step (by repeat (first | (with_reducible first | exact HB.out | apply below_alloc | apply pw_below_drewN | apply below_drew1) | exact HB.out)) hb); clear HO_0; clear HO_1; clear HO_13; clear HO_16; clear HB; have HO_0 := n0_; have HO_1 := n1_; have HO_13 := n2_; have HO_16 := n3_; have HO266 := n4_; have HB := n5_; clear n0_ n1_ n2_ n3_ n4_ n5_; (try clear hb); (try clear hb2); (try clear hk); (try clear hi); (try clear ho0); obtain ⟨Ao45, co45, eo45⟩ := Kd.N_slice HO_13.out; subst eo45; obtain ⟨Ao46, co46, eo46⟩ := Kd.N_slice HO266.out; subst eo46) | (go_at_call 19; (with_reducible refine (spec_EqualMatrices.calls kj24 _ _ t252 _ _ t264 true _ ?side1 ?side2 ?side3 ?side4 A39.out).mono ?_); (case side1 => repeat (first | exact (Kd.N_reads' HO_13.out).2.2 | (with_reducible refine Kd.C_alloc ?_ _) | (with_reducible refine Kd.C_drewN ?_ _) | (with_reducible refine Kd.C_drew ?_))); (case side2 => exact (Kd.N_reads' HO_13.out).2.1); (case side3 => repeat (first | exact (Kd.N_reads' HO266.out).2.2 | (with_reducible refine Kd.C_alloc ?_ _) | (with_reducible refine Kd.C_drewN ?_ _) | (with_reducible refine Kd.C_drew ?_))); (case side4 => exact (Kd.N_reads' HO266.out).2.1); rintro e w' ⟨rfl, ⟨nd, rfl⟩⟩) | (go_at_call 21; (with_reducible refine (spec_Block.calls kj24 _ _ l0 a2 a3 a4 a5 t268 _ ?side1 ?side2 A42.out).mono ?_); (case side1 => repeat (first | exact (Kd.V_reads' HO_0.out).2.2 | (with_reducible refine Kd.C_alloc ?_ _) | (with_reducible refine Kd.C_drewN ?_ _) | (with_reducible refine Kd.C_drew ?_))); (case side2 => exact (Kd.V_reads' HO_0.out).2.1); rintro e w47 ⟨v269, rfl, ho0, hb⟩; have n0_ := Aside0.mk (Kd.V_elder' (by (with_reducible repeat (first | apply Kd.V_alloc | apply Kd.V_drewN | apply Kd.V_drew)); exact HO_0.out) (by first | exact Kd.N_base ho0 | exact Kd.S_base ho0 | exact Kd.N_base (Kd.S_N (Kd.S_bound ho0))) hb); have n1_ := Aside0.mk (Kd.V_elder' (by (with_reducible repeat (first | apply Kd.V_alloc | apply Kd.V_drewN | apply Kd.V_drew)); exact HO_1.out) (by first | exact Kd.N_base ho0 | exact Kd.S_base ho0 | exact Kd.N_base (Kd.S_N (Kd.S_bound ho0))) hb); have n2_ := Aside0.mk (Kd.N_elder' (by (with_reducible repeat (first | apply Kd.N_alloc | apply Kd.N_drewN | apply Kd.N_drew)); exact HO_13.out) (by first | exact Kd.N_base ho0 | exact Kd.S_base ho0 | exact Kd.N_base (Kd.S_N (Kd.S_bound ho0))) hb); have n3_ := Aside0.mk (Kd.N_elder' (by (with_reducible repeat (first | apply Kd.N_alloc | apply Kd.N_drewN | apply Kd.N_drew)); exact HO_16.out) (by first | exact Kd.N_base ho0 | exact Kd.S_base ho0 | exact Kd.N_base (Kd.S_N (Kd.S_bound ho0))) hb); have n4_ := Aside0.mk (Kd.N_elder' (by (with_reducible repeat (first | apply Kd.N_alloc | apply Kd.N_drewN | apply Kd.N_drew)); exact HO266.out) (by first | exact Kd.N_base ho0 | exact Kd.S_base ho0 | exact Kd.N_base (Kd.S_N (Kd.S_bound ho0))) hb); have n5_ := Aside0.mk (Kd.N_lower (Kd.N_mono (ok' := fun k_ => ((P0_ k_ ∨ P1_ k_) ∨ w.heap.size ≤ k_) ∧ some k_ ≠ (.slice Ao45 t252.length co45 : Value).ownBlock ∧ some k_ ≠ (v260 : Value).ownBlock ∧ some k_ ≠ (.slice Ao46 t264.length co46 : Value).ownBlock) (Kd.S_N (Kd.S_bound ho0)) (fun k_ hk_ => ⟨(.inr (Nat.le_trans (below_size (by repeat (first | (with_reducible first | exact HB.out | apply below_alloc | apply pw_below_drewN | apply below_drew1) | exact HB.out))) hk_.2.1)), (Kd.fresh' (Kd.N_lt (by (with_reducible repeat (first | apply Kd.N_alloc | apply Kd.N_drewN | apply Kd.N_drew)); exact HO_13.out)) k_ hk_.2.1), (Kd.fresh' (Kd.N_lt (by (with_reducible repeat (first | apply Kd.N_alloc | apply Kd.N_drewN | apply Kd.N_drew)); exact HO_16.out)) k_ hk_.2.1), (Kd.fresh' (Kd.N_lt (by (with_reducible repeat (first | apply Kd.N_alloc | apply Kd.N_drewN | apply Kd.N_drew)); exact HO266.out)) k_ hk_.2.1)⟩)) (below_size (by repeat (first | (with_reducible first | exact HB.out | apply below_alloc | apply pw_below_drewN | apply below_drew1) | exact HB.out)))); have n6_ := Aside0.mk (below_step (by repeat (first | (with_reducible first | exact HB.out | apply below_alloc | apply pw_below_drewN | apply below_drew1) | exact HB.out)) hb); clear HO_0; clear HO_1; clear HO_13; clear HO_16; clear HO266; clear HB; have HO_0 := n0_; have HO_1 := n1_; have HO_13 := n2_; have HO_16 := n3_; have HO266 := n4_; have HO270 := n5_; have HB := n6_; clear n0_ n1_ n2_ n3_ n4_ n5_ n6_; (try clear hb); (try clear hb2); (try clear hk); (try clear hi); (try clear ho0); obtain ⟨Ao48, co48, eo48⟩ := Kd.N_slice HO_16.out; subst eo48; obtain ⟨Ao49, co49, eo49⟩ := Kd.N_slice HO270.out; subst eo49) | (go_at_call 19; (with_reducible refine (spec_EqualMatrices.calls kj24 _ _ t258 _ _ t268 t271 _ ?side1 ?side2 ?side3 ?side4 A43.out).mono ?_); (case side1 => repeat (first | exact (Kd.N_reads' HO_16.out).2.2 | (with_reducible refine Kd.C_alloc ?_ _) | (with_reducible refine Kd.C_drewN ?_ _) | (with_reducible refine Kd.C_drew ?_))); (case side2 => exact (Kd.N_reads' HO_16.out).2.1); (case side3 => repeat (first | exact (Kd.N_reads' HO270.out).2.2 | (with_reducible refine Kd.C_alloc ?_ _) | (with_reducible refine Kd.C_drewN ?_ _) | (with_reducible refine Kd.C_drew ?_))); (case side4 => exact (Kd.N_reads' HO270.out).2.1); rintro e w' ⟨rfl, ⟨nd, rfl⟩⟩))
                            go_ret
                            exact ⟨by first | rfl | (simp [errW_none, errW_some] <;> rfl) | (simp [*, errW_none, errW_some] <;> rfl), by repeat (first | (with_reducible first | exact HB.out | apply below_alloc | apply pw_below_drewN | apply below_drew1) | exact HB.out)⟩
                          · replace c41 := Bool.eq_false_iff.mpr c41
                            subst c41
                            have H1 : (some true) = some r := by rw [if_neg (show ¬ (false = true) by decide)] at H; exact H
                            clear H
                            have H := H1
                            clear H1
                            obtain rfl := Option.some.inj H
                            go_wp2_with (first | (go_at_call 20; (with_reducible refine (spec_Beside.calls kj24 _ _ l0 _ _ l1 t264 _ ?side1 ?side2 ?side3 ?side4 A38.out).mono ?_); (case side1 => repeat (first | exact (Kd.V_reads' HO_0.out).2.2 | (with_reducible refine Kd.C_alloc ?_ _) | (with_reducible refine Kd.C_drewN ?_ _) | (with_reducible refine Kd.C_drew ?_))); (case side2 => exact (Kd.V_reads' HO_0.out).2.1); (case side3 => repeat (first | exact (Kd.V_reads' HO_1.out).2.2 | (with_reducible refine Kd.C_alloc ?_ _) | (with_reducible refine Kd.C_drewN ?_ _) | (with_reducible refine Kd.C_drew ?_))); (case side4 => exact (Kd.V_reads' HO_1.out).2.1); rintro e w50 ⟨v265, rfl, ho0, hb⟩; have n0_ := Aside0.mk (Kd.V_elder' (by (with_reducible repeat (first | apply Kd.V_alloc | apply Kd.V_drewN | apply Kd.V_drew)); exact HO_0.out) (by first | exact Kd.N_base ho0 | exact Kd.S_base ho0 | exact Kd.N_base (Kd.S_N (Kd.S_bound ho0))) hb); have n1_ := Aside0.mk (Kd.V_elder' (by (with_reducible repeat (first | apply Kd.V_alloc | apply Kd.V_drewN | apply Kd.V_drew)); exact HO_1.out) (by first | exact Kd.N_base ho0 | exact Kd.S_base ho0 | exact Kd.N_base (Kd.S_N (Kd.S_bound ho0))) hb); have n2_ := Aside0.mk (Kd.N_elder' (by (with_reducible repeat (first | apply Kd.N_alloc | apply Kd.N_drewN | apply Kd.N_drew)); exact HO_13.out) (by first | exact Kd.N_base ho0 | exact Kd.S_base ho0 | exact Kd.N_base (Kd.S_N (Kd.S_bound ho0))) hb); have n3_ := Aside0.mk (Kd.N_elder' (by (with_reducible repeat (first | apply Kd.N_alloc | apply Kd.N_drewN | apply Kd.N_drew)); exact HO_16.out) (by first | exact Kd.N_base ho0 | exact Kd.S_base ho0 | exact Kd.N_base (Kd.S_N (Kd.S_bound ho0))) hb); have n4_ := Aside0.mk (Kd.N_lower (Kd.N_mono (ok' := fun k_ => ((P0_ k_ ∨ P1_ k_) ∨ w.heap.size ≤ k_) ∧ some k_ ≠ (v254 : Value).ownBlock ∧ some k_ ≠ (v260 : Value).ownBlock) (Kd.S_N (Kd.S_bound ho0)) (fun k_ hk_ => ⟨(.inr (Nat.le_trans (below_size (by repeat (first | (with_reducible first | exact HB.out | apply below_alloc | apply pw_below_drewN | apply below_drew1) | exact HB.out))) hk_.2.1)), (Kd.fresh' (Kd.N_lt (by (with_reducible repeat (first | apply Kd.N_alloc | apply Kd.N_drewN | apply Kd.N_drew)); exact HO_13.out)) k_ hk_.2.1), (Kd.fresh' (Kd.N_lt (by (with_reducible repeat (first | apply Kd.N_alloc | apply Kd.N_drewN | apply Kd.N_drew)); exact HO_16.out)) k_ hk_.2.1)⟩)) (below_size (by repeat (first | (with_reducible first | exact HB.out | apply below_alloc | apply pw_below_drewN | apply below_drew1) | exact HB.out)))); have n5_ := Aside0.mk (below_step (by repeat (first | (with_reducible first | exact HB.out | apply below_alloc | apply pw_below_drewN | apply below_drew1) | exact HB.out)) hb); clear HO_0; clear HO_1; clear HO_13; clear HO_16; clear HB; have HO_0 := n0_; have HO_1 := n1_; have HO_13 := n2_; have HO_16 := n3_; have HO266 := n4_; have HB := n5_; clear n0_ n1_ n2_ n3_ n4_ n5_; (try clear hb); (try clear hb2); (try clear hk); (try clear hi); (try clear ho0); obtain ⟨Ao51, co51, eo51⟩ := Kd.N_slice HO_13.out; subst eo51; obtain ⟨Ao52, co52, eo52⟩ := Kd.N_slice HO266.out; subst eo52) | (go_at_call 19; (with_reducible refine (spec_EqualMatrices.calls kj24 _ _ t252 _ _ t264 true _ ?side1 ?side2 ?side3 ?side4 A39.out).mono ?_); (case side1 => repeat (first | exact (Kd.N_reads' HO_13.out).2.2 | (with_reducible refine Kd.C_alloc ?_ _) | (with_reducible refine Kd.C_drewN ?_ _) | (with_reducible refine Kd.C_drew ?_))); (case side2 => exact (Kd.N_reads' HO_13.out).2.1); (case side3 => repeat (first | exact (Kd.N_reads' HO266.out).2.2 | (with_reducible refine Kd.C_alloc ?_ _) | (with_reducible refine Kd.C_drewN ?_ _) | (with_reducible refine Kd.C_drew ?_))); (case side4 => exact (Kd.N_reads' HO266.out).2.1); rintro e w' ⟨rfl, ⟨nd, rfl⟩⟩))
                            go_ret
                            exact ⟨by first | rfl | (simp [errW_none, errW_some] <;> rfl) | (simp [*, errW_none, errW_some] <;> rfl), by repeat (first | (with_reducible first | exact HB.out | apply below_alloc | apply pw_below_drewN | apply below_drew1) | exact HB.out)⟩
                        · replace c40 := Bool.eq_false_iff.mpr c40
                          subst c40
                          have H1 : (some false) = some r := by rw [if_neg (show ¬ (false = true) by decide)] at H; exact H
                          clear H
                          have H := H1
                          clear H1
                          obtain rfl := Option.some.inj H
                          go_wp2_with (first | (go_at_call 20; (with_reducible refine (spec_Beside.calls kj24 _ _ l0 _ _ l1 t264 _ ?side1 ?side2 ?side3 ?side4 A38.out).mono ?_); (case side1 => repeat (first | exact (Kd.V_reads' HO_0.out).2.2 | (with_reducible refine Kd.C_alloc ?_ _) | (with_reducible refine Kd.C_drewN ?_ _) | (with_reducible refine Kd.C_drew ?_))); (case side2 => exact (Kd.V_reads' HO_0.out).2.1); (case side3 => repeat (first | exact (Kd.V_reads' HO_1.out).2.2 | (with_reducible refine Kd.C_alloc ?_ _) | (with_reducible refine Kd.C_drewN ?_ _) | (with_reducible refine Kd.C_drew ?_))); (case side4 => exact (Kd.V_reads' HO_1.out).2.1); rintro e w53 ⟨v265, rfl, ho0, hb⟩; have n0_ := Aside0.mk (Kd.V_elder' (by (with_reducible repeat (first | apply Kd.V_alloc | apply Kd.V_drewN | apply Kd.V_drew)); exact HO_0.out) (by first | exact Kd.N_base ho0 | exact Kd.S_base ho0 | exact Kd.N_base (Kd.S_N (Kd.S_bound ho0))) hb); have n1_ := Aside0.mk (Kd.V_elder' (by (with_reducible repeat (first | apply Kd.V_alloc | apply Kd.V_drewN | apply Kd.V_drew)); exact HO_1.out) (by first | exact Kd.N_base ho0 | exact Kd.S_base ho0 | exact Kd.N_base (Kd.S_N (Kd.S_bound ho0))) hb); have n2_ := Aside0.mk (Kd.N_elder' (by (with_reducible repeat (first | apply Kd.N_alloc | apply Kd.N_drewN | apply Kd.N_drew)); exact HO_13.out) (by first | exact Kd.N_base ho0 | exact Kd.S_base ho0 | exact Kd.N_base (Kd.S_N (Kd.S_bound ho0))) hb); have n3_ := Aside0.mk (Kd.N_elder' (by (with_reducible repeat (first | apply Kd.N_alloc | apply Kd.N_drewN | apply Kd.N_drew)); exact HO_16.out) (by first | exact Kd.N_base ho0 | exact Kd.S_base ho0 | exact Kd.N_base (Kd.S_N (Kd.S_bound ho0))) hb); have n4_ := Aside0.mk (Kd.N_lower (Kd.N_mono (ok' := fun k_ => ((P0_ k_ ∨ P1_ k_) ∨ w.heap.size ≤ k_) ∧ some k_ ≠ (v254 : Value).ownBlock ∧ some k_ ≠ (v260 : Value).ownBlock) (Kd.S_N (Kd.S_bound ho0)) (fun k_ hk_ => ⟨(.inr (Nat.le_trans (below_size (by repeat (first | (with_reducible first | exact HB.out | apply below_alloc | apply pw_below_drewN | apply below_drew1) | exact HB.out))) hk_.2.1)), (Kd.fresh' (Kd.N_lt (by (with_reducible repeat (first | apply Kd.N_alloc | apply Kd.N_drewN | apply Kd.N_drew)); exact HO_13.out)) k_ hk_.2.1), (Kd.fresh' (Kd.N_lt (by (with_reducible repeat (first | apply Kd.N_alloc | apply Kd.N_drewN | apply Kd.N_drew)); exact HO_16.out)) k_ hk_.2.1)⟩)) (below_size (by repeat (first | (with_reducible first | exact HB.out | apply below_alloc | apply pw_below_drewN | apply below_drew1) | exact HB.out)))); have n5_ := Aside0.mk (below_step (by repeat (first | (with_reducible first | exact HB.out | apply below_alloc | apply pw_below_drewN | apply below_drew1) | exact HB.out)) hb); clear HO_0; clear HO_1; clear HO_13; clear HO_16; clear HB; have HO_0 := n0_; have HO_1 := n1_; have HO_13 := n2_; have HO_16 := n3_; have HO266 := n4_; have HB := n5_; clear n0_ n1_ n2_ n3_ n4_ n5_; (try clear hb); (try clear hb2); (try clear hk); (try clear hi); (try clear ho0); obtain ⟨Ao54, co54, eo54⟩ := Kd.N_slice HO_13.out; subst eo54; obtain ⟨Ao55, co55, eo55⟩ := Kd.N_slice HO266.out; subst eo55) | (go_at_call 19; (with_reducible refine (spec_EqualMatrices.calls kj24 _ _ t252 _ _ t264 false _ ?side1 ?side2 ?side3 ?side4 A39.out).mono ?_); (case side1 => repeat (first | exact (Kd.N_reads' HO_13.out).2.2 | (with_reducible refine Kd.C_alloc ?_ _) | (with_reducible refine Kd.C_drewN ?_ _) | (with_reducible refine Kd.C_drew ?_))); (case side2 => exact (Kd.N_reads' HO_13.out).2.1); (case side3 => repeat (first | exact (Kd.N_reads' HO266.out).2.2 | (with_reducible refine Kd.C_alloc ?_ _) | (with_reducible refine Kd.C_drewN ?_ _) | (with_reducible refine Kd.C_drew ?_))); (case side4 => exact (Kd.N_reads' HO266.out).2.1); rintro e w' ⟨rfl, ⟨nd, rfl⟩⟩))
                          go_ret
                          exact ⟨by first | rfl | (simp [errW_none, errW_some] <;> rfl) | (simp [*, errW_none, errW_some] <;> rfl), by repeat (first | (with_reducible first | exact HB.out | apply below_alloc | apply pw_below_drewN | apply below_drew1) | exact HB.out)⟩
                      · replace c37 := Bool.eq_false_iff.mpr c37
                        subst c37
                        have H1 : (if x18_24 = true then ((spec_Block.f kj24 l0 a2 a3 a4 a5).bind fun t272 => ((spec_EqualMatrices.f kj24 t258 t272).bind fun t275 => (some t275))) else (some true)) = some r := by rw [if_neg (show ¬ (false = true) by decide)] at H; exact H
                        clear H
                        have H := H1
                        clear H1
                        by_cases c56 : x18_24 = true
                        · subst c56
                          have H1 : ((spec_Block.f kj24 l0 a2 a3 a4 a5).bind fun t272 => ((spec_EqualMatrices.f kj24 t258 t272).bind fun t275 => (some t275))) = some r := by rw [if_pos rfl] at H; exact H
                          clear H
                          have H := H1
                          clear H1
                          replace H := Option.bind_eq_some_iff.mp H
                          obtain ⟨t272, A570, H⟩ := H
                          replace H : ((spec_EqualMatrices.f kj24 t258 t272).bind fun t275 => (some t275)) = some r := H
                          have A57 := Aside0.mk A570
                          clear A570
                          replace H := Option.bind_eq_some_iff.mp H
                          obtain ⟨t275, A580, H⟩ := H
                          replace H : (some t275) = some r := H
                          have A58 := Aside0.mk A580
                          clear A580
                          obtain rfl := Option.some.inj H
                          go_wp2_with (first | (go_at_call 21; (with_reducible refine (spec_Block.calls kj24 _ _ l0 a2 a3 a4 a5 t272 _ ?side1 ?side2 A57.out).mono ?_); (case side1 => repeat (first | exact (Kd.V_reads' HO_0.out).2.2 | (with_reducible refine Kd.C_alloc ?_ _) | (with_reducible refine Kd.C_drewN ?_ _) | (with_reducible refine Kd.C_drew ?_))); (case side2 => exact (Kd.V_reads' HO_0.out).2.1); rintro e w59 ⟨v273, rfl, ho0, hb⟩; have n0_ := Aside0.mk (Kd.V_elder' (by (with_reducible repeat (first | apply Kd.V_alloc | apply Kd.V_drewN | apply Kd.V_drew)); exact HO_0.out) (by first | exact Kd.N_base ho0 | exact Kd.S_base ho0 | exact Kd.N_base (Kd.S_N (Kd.S_bound ho0))) hb); have n1_ := Aside0.mk (Kd.V_elder' (by (with_reducible repeat (first | apply Kd.V_alloc | apply Kd.V_drewN | apply Kd.V_drew)); exact HO_1.out) (by first | exact Kd.N_base ho0 | exact Kd.S_base ho0 | exact Kd.N_base (Kd.S_N (Kd.S_bound ho0))) hb); have n2_ := Aside0.mk (Kd.N_elder' (by (with_reducible repeat (first | apply Kd.N_alloc | apply Kd.N_drewN | apply Kd.N_drew)); exact HO_13.out) (by first | exact Kd.N_base ho0 | exact Kd.S_base ho0 | exact Kd.N_base (Kd.S_N (Kd.S_bound ho0))) hb); have n3_ := Aside0.mk (Kd.N_elder' (by (with_reducible repeat (first | apply Kd.N_alloc | apply Kd.N_drewN | apply Kd.N_drew)); exact HO_16.out) (by first | exact Kd.N_base ho0 | exact Kd.S_base ho0 | exact Kd.N_base (Kd.S_N (Kd.S_bound ho0))) hb); have n4_ := Aside0.mk (Kd.N_lower (Kd.N_mono (ok' := fun k_ => ((P0_ k_ ∨ P1_ k_) ∨ w.heap.size ≤ k_) ∧ some k_ ≠ (v254 : Value).ownBlock ∧ some k_ ≠ (v260 : Value).ownBlock) (Kd.S_N (Kd.S_bound ho0)) (fun k_ hk_ => ⟨(.inr (Nat.le_trans (below_size (by repeat (first | (with_reducible first | exact HB.out | apply below_alloc | apply pw_below_drewN | apply below_drew1) | exact HB.out))) hk_.2.1)), (Kd.fresh' (Kd.N_lt (by (with_reducible repeat (first | apply Kd.N_alloc | apply Kd.N_drewN | apply Kd.N_drew)); exact HO_13.out)) k_ hk_.2.1), (Kd.fresh' (Kd.N_lt (by (with_reducible repeat (first | apply Kd.N_alloc | apply Kd.N_drewN | apply Kd.N_drew)); exact HO_16.out)) k_ hk_.2.1)⟩)) (below_size (by repeat (first | (with_reducible first | exact HB.out | apply below_alloc | apply pw_below_drewN | apply below_drew1) | exact HB.out)))); have n5_ := Aside0.mk (below_step (by repeat (first | (with_reducible first | exact HB.out | apply below_alloc | apply pw_below_drewN | apply below_drew1) | exact HB.out)) hb); clear HO_0; clear HO_1; clear HO_13; clear HO_16; clear HB; have HO_0 := n0_; have HO_1 := n1_; have HO_13 := n2_; have HO_16 := n3_; have HO274 := n4_; have HB := n5_; clear n0_ n1_ n2_ n3_ n4_ n5_; (try clear hb); (try clear hb2); (try clear hk); (try clear hi); (try clear ho0); obtain ⟨Ao60, co60, eo60⟩ := Kd.N_slice HO_16.out; subst eo60; obtain ⟨Ao61, co61, eo61⟩ := Kd.N_slice HO274.out; subst eo61) | (go_at_call 19; (with_reducible refine (spec_EqualMatrices.calls kj24 _ _ t258 _ _ t272 t275 _ ?side1 ?side2 ?side3 ?side4 A58.out).mono ?_); (case side1 => repeat (first | exact (Kd.N_reads' HO_16.out).2.2 | (with_reducible refine Kd.C_alloc ?_ _) | (with_reducible refine Kd.C_drewN ?_ _) | (with_reducible refine Kd.C_drew ?_))); (case side2 => exact (Kd.N_reads' HO_16.out).2.1); (case side3 => repeat (first | exact (Kd.N_reads' HO274.out).2.2 | (with_reducible refine Kd.C_alloc ?_ _) | (with_reducible refine Kd.C_drewN ?_ _) | (with_reducible refine Kd.C_drew ?_))); (case side4 => exact (Kd.N_reads' HO274.out).2.1); rintro e w' ⟨rfl, ⟨nd, rfl⟩⟩))
                          go_ret
                          exact ⟨by first | rfl | (simp [errW_none, errW_some] <;> rfl) | (simp [*, errW_none, errW_some] <;> rfl), by repeat (first | (with_reducible first | exact HB.out | apply below_alloc | apply pw_below_drewN | apply below_drew1) | exact HB.out)⟩
                        · replace c56 := Bool.eq_false_iff.mpr c56
                          subst c56
                          have H1 : (some true) = some r := by rw [if_neg (show ¬ (false = true) by decide)] at H; exact H
                          clear H
                          have H := H1
                          clear H1
                          obtain rfl := Option.some.inj H
                          go_wp2
                          go_ret
                          exact ⟨by first | rfl | (simp [errW_none, errW_some] <;> rfl) | (simp [*, errW_none, errW_some] <;> rfl), by repeat (first | (with_reducible first | exact HB.out | apply below_alloc | apply pw_below_drewN | apply below_drew1) | exact HB.out)⟩
                    · rw [if_neg c36] at H
                      have c36b0 : (t259 == x18_24) = false := by simpa using c36
                      (try (have c36b1 : decide (t259 = x18_24) = false := by simpa using c36))
                      (try (have c36b2 : (t259 == x18_24) = false := by simpa using c36))
                      (try (have c36b3 : ¬ (t259 = x18_24) := by simpa using c36))
                      clear c36
                      obtain rfl := Option.some.inj H
                      go_wp2
                      go_ret
                      exact ⟨by first | rfl | (simp [errW_none, errW_some] <;> rfl) | (simp [*, errW_none, errW_some] <;> rfl), by repeat (first | (with_reducible first | exact HB.out | apply below_alloc | apply pw_below_drewN | apply below_drew1) | exact HB.out)⟩
                  · rw [if_neg c35] at H
                    have c35b0 : (t253 == x15_14) = false := by simpa using c35
                    (try (have c35b1 : decide (t253 = x15_14) = false := by simpa using c35))
                    (try (have c35b2 : (t253 == x15_14) = false := by simpa using c35))
                    (try (have c35b3 : ¬ (t253 = x15_14) := by simpa using c35))
                    clear c35
                    obtain rfl := Option.some.inj H
                    go_wp2
                    go_ret
                    exact ⟨by first | rfl | (simp [errW_none, errW_some] <;> rfl) | (simp [*, errW_none, errW_some] <;> rfl), by repeat (first | (with_reducible first | exact HB.out | apply below_alloc | apply pw_below_drewN | apply below_drew1) | exact HB.out)⟩
        · replace c13 := Bool.eq_false_iff.mpr c13
          subst c13
          have H1 : (some true) = some r := by rw [if_neg (show ¬ (false = true) by decide)] at H; exact H
          clear H
          have H := H1
          clear H1
          obtain rfl := Option.some.inj H
          go_wp2_with (first | ((with_reducible refine gate_dst (N := 29) rfl ?_); (try (refine gate_guard (by rfl) ?_; dsimp only)); refine Kd.N_lit (Kd.slice 22 (Kd.slice 5 (Kd.int .u8))) _ 30 ?hg (N' := 29) ?hd (xs := ([l0, l1] : List (List (List Int)))) (inner := [.slice A0 l0.length c0, .slice A1 l1.length c1]) (ok := (fun k_ => ((P0_ k_ ∨ P1_ k_) ∨ w.heap.size ≤ k_))) (okp := (fun k_ => ((P0_ k_ ∨ P1_ k_) ∨ w.heap.size ≤ k_))) ?hr ?hp (fun _ hk => hk) ((show ∀ k_, wc.heap.size ≤ k_ → (fun k_ => ((P0_ k_ ∨ P1_ k_) ∨ w.heap.size ≤ k_)) k_ from fun k_ hk => (.inr (Nat.le_trans (below_size (by repeat (first | (with_reducible first | exact HB.out | apply below_alloc | apply pw_below_drewN | apply below_drew1) | exact HB.out))) hk))) _ (Nat.le_refl _)) (Below.refl _ _) (Nat.le_refl _) (by simp) ?_; (case hd => rfl); (case hg => rfl); (case hr => first | (go_simp; done) | (go_simp; rfl)); (case hp => exact (Reps.one (show Kd.FK (Kd.slice 22 (Kd.slice 5 (Kd.int .u8))) _ _ l0 [.slice A0 l0.length c0] from (Kd.FK_slice_mk (Kd.V_reads' (Kd.V_mono (ok' := (fun k_ => ((P0_ k_ ∨ P1_ k_) ∨ w.heap.size ≤ k_))) (HO_0.out) (fun k_ hk => hk))).2.1 (Kd.V_F (Kd.V_mono (ok' := (fun k_ => ((P0_ k_ ∨ P1_ k_) ∨ w.heap.size ≤ k_))) (HO_0.out) (fun k_ hk => hk))))) (Reps.one (show Kd.FK (Kd.slice 22 (Kd.slice 5 (Kd.int .u8))) _ _ l1 [.slice A1 l1.length c1] from (Kd.FK_slice_mk (Kd.V_reads' (Kd.V_mono (ok' := (fun k_ => ((P0_ k_ ∨ P1_ k_) ∨ w.heap.size ≤ k_))) (HO_1.out) (fun k_ hk => hk))).2.1 (Kd.V_F (Kd.V_mono (ok' := (fun k_ => ((P0_ k_ ∨ P1_ k_) ∨ w.heap.size ≤ k_))) (HO_1.out) (fun k_ hk => hk))))) (Reps.none _ _)))); intro v249 w62 ho63 hb hg_ hnew_; clear hg_ hnew_; (first | rw [← Ny248.out] at ho63 | (simp only [Int.reduceToNat] at ho63; rw [← Ny248.out] at ho63)); have n0_ := Aside0.mk (Kd.V_elder' (by (with_reducible repeat (first | apply Kd.V_alloc | apply Kd.V_drewN | apply Kd.V_drew)); exact HO_0.out) (by first | exact Kd.N_base ho63 | exact Kd.S_base ho63 | exact Kd.N_base (Kd.S_N (Kd.S_bound ho63))) hb); have n1_ := Aside0.mk (Kd.V_elder' (by (with_reducible repeat (first | apply Kd.V_alloc | apply Kd.V_drewN | apply Kd.V_drew)); exact HO_1.out) (by first | exact Kd.N_base ho63 | exact Kd.S_base ho63 | exact Kd.N_base (Kd.S_N (Kd.S_bound ho63))) hb); have n2_ := Aside0.mk (Kd.N_lower ho63 (below_size (by repeat (first | (with_reducible first | exact HB.out | apply below_alloc | apply pw_below_drewN | apply below_drew1) | exact HB.out)))); have n3_ := Aside0.mk (below_step (by repeat (first | (with_reducible first | exact HB.out | apply below_alloc | apply pw_below_drewN | apply below_drew1) | exact HB.out)) hb); clear HO_0; clear HO_1; clear HB; have HO_0 := n0_; have HO_1 := n1_; have HO250 := n2_; have HB := n3_; clear n0_ n1_ n2_ n3_; clear hb ho63; obtain ⟨Ao64, co64, eo64⟩ := Kd.N_slice HO250.out; subst eo64) | ((with_reducible refine gate_callee (f := 14) rfl ?_); refine goesL_ (some 30) rfl rfl Tryd.func14 (by kernel_rfl) rfl #[.slice Ao64 y248.length co64] rfl (by (try simp only [List.map_toArray, List.map_cons, List.map_nil]); first | done | rfl | (simp only [List.length_drop, List.length_take]; rfl)) ?_; (with_reducible refine (laws_moderate.calls kj6 _ _ y248 false _ ?side1 ?side2 A12.out).mono ?_); (case side1 => repeat (first | exact (Kd.N_reads' HO250.out).2.2 | (with_reducible refine Kd.C_alloc ?_ _) | (with_reducible refine Kd.C_drewN ?_ _) | (with_reducible refine Kd.C_drew ?_))); (case side2 => exact (Kd.N_reads' HO250.out).2.1); rintro e w' ⟨rfl, ⟨nd, rfl⟩⟩; refine ⟨_, rfl, ?_⟩))
          go_ret
          exact ⟨by first | rfl | (simp [errW_none, errW_some] <;> rfl) | (simp [*, errW_none, errW_some] <;> rfl), by repeat (first | (with_reducible first | exact HB.out | apply below_alloc | apply pw_below_drewN | apply below_drew1) | exact HB.out)⟩

end Go.Proofs.YtpeikjnkbjabpaaDoor.X
