import Derived.Test.YtpeikjnkbjabpaaDoorSGP0
import Derived.Test.YtpeikjnkbjabpaaDoorSGP1
import Derived.Test.YtpeikjnkbjabpaaDoorSGP2
import Derived.Test.YtpeikjnkbjabpaaDoorSGP8
import Derived.Test.YtpeikjnkbjabpaaDoorSGP9
import Derived.Test.YtpeikjnkbjabpaaDoorSGP10
namespace Go.Proofs.YtpeikjnkbjabpaaDoor.P
open Go.RowKit Go.Proofs.YtpeikjnkbjabpaaDoorW.PrintWords Go.Proofs.YtpeikjnkbjabpaaDoorW.PrintLast Go.Proofs.YtpeikjnkbjabpaaDoorW.PrintMore
attribute [local go_sem] max2_int min2_int max_two min_two max_three min_three max_four min_four   -- for this text's walks alone
set_option linter.unusedVariables false
set_option linter.unusedSimpArgs false
mutual
def laws_FnMatrixInverts.j0 : Nat → List (List Int) → Bool → Option (Bool)
  | 0, _, _ => none
  | k + 1, x0, x16 => if x16 = true then (some true) else ((impl_Invert.f k x0).bind fun bt263 => ((spec_Rectangular.f k x0).bind fun t267 => (if t267 = true then ((spec_Columns.f x0).bind fun t268 => (if t268 = (x0.length : Int) then ((spec_Determinant.f k x0).bind fun t269 => (laws_FnMatrixInverts.j1 k x0 bt263.1 bt263.2 (t269 == 0))) else (laws_FnMatrixInverts.j1 k x0 bt263.1 bt263.2 true))) else (laws_FnMatrixInverts.j1 k x0 bt263.1 bt263.2 true))))
def laws_FnMatrixInverts.j1 : Nat → List (List Int) → List (List Int) → Bool → Bool → Option (Bool)
  | 0, _, _, _, _ => none
  | k + 1, x0, x3, x4, x36 => if x36 = true then (some (!x4)) else (if x4 = true then ((spec_Times.f k x0 x3).bind fun t270 => ((spec_Unit.f k (x0.length : Int)).bind fun t273 => ((spec_EqualMatrices.f k t270 t273).bind fun t276 => (if t276 = true then ((spec_Times.f k x3 x0).bind fun t277 => ((spec_Unit.f k (x0.length : Int)).bind fun t280 => ((spec_EqualMatrices.f k t277 t280).bind fun t283 => (some t283)))) else (some false))))) else (some false))
end
def laws_FnMatrixInverts.f (k : Nat) (l0 : List (List Int)) : Option (Bool) := (laws_zzFits2.f k l0).bind fun t258 => (if t258 = true then (if (l0.length : Int) > 6 then (laws_FnMatrixInverts.j0 k l0 true) else ((laws_moderate.f k (([l0] : List (List (List Int))))).bind fun t262 => (laws_FnMatrixInverts.j0 k l0 (!t262)))) else (some true))
theorem laws_FnMatrixInverts.mono_l : ∀ k, (∀ y0 y1, LeO (laws_FnMatrixInverts.j0 k y0 y1) (laws_FnMatrixInverts.j0 (k + 1) y0 y1)) ∧ (∀ y0 y1 y2 y3, LeO (laws_FnMatrixInverts.j1 k y0 y1 y2 y3) (laws_FnMatrixInverts.j1 (k + 1) y0 y1 y2 y3))
  | 0 => ⟨fun _ _ r h => by simp [laws_FnMatrixInverts.j0] at h, fun _ _ _ _ r h => by simp [laws_FnMatrixInverts.j1] at h⟩
  | k + 1 => by
    obtain ⟨ih0, ih1⟩ := laws_FnMatrixInverts.mono_l k
    refine ⟨?_, ?_⟩
    · intro y0 y1
      unfold laws_FnMatrixInverts.j0
      repeat' first
      | (with_reducible exact ih0 _ _)
      | (with_reducible exact ih1 _ _ _ _)
      | (with_reducible exact impl_Invert.mono _ _)
      | (with_reducible exact laws_moderate.mono _ _)
      | (with_reducible exact laws_zzFits2.mono _ _)
      | (with_reducible exact spec_Determinant.mono _ _)
      | (with_reducible exact spec_EqualMatrices.mono _ _ _)
      | (with_reducible exact spec_Rectangular.mono _ _)
      | (with_reducible exact spec_Times.mono _ _ _)
      | (with_reducible exact spec_Unit.mono _ _)
      | (with_reducible exact LeO.refl _)
      | (with_reducible exact LeO.none _)
      | (with_reducible refine LeO.ite ?_ ?_)
      | (with_reducible refine LeO.bind ?_ (fun _ => ?_))
      | exact ih0 _ _
      | exact ih1 _ _ _ _
      | exact impl_Invert.mono _ _
      | exact laws_moderate.mono _ _
      | exact laws_zzFits2.mono _ _
      | exact spec_Determinant.mono _ _
      | exact spec_EqualMatrices.mono _ _ _
      | exact spec_Rectangular.mono _ _
      | exact spec_Times.mono _ _ _
      | exact spec_Unit.mono _ _
      | exact LeO.none _
      | refine LeO.ite ?_ ?_
      | refine LeO.bind ?_ (fun _ => ?_)
    · intro y0 y1 y2 y3
      unfold laws_FnMatrixInverts.j1
      repeat' first
      | (with_reducible exact ih0 _ _)
      | (with_reducible exact ih1 _ _ _ _)
      | (with_reducible exact impl_Invert.mono _ _)
      | (with_reducible exact laws_moderate.mono _ _)
      | (with_reducible exact laws_zzFits2.mono _ _)
      | (with_reducible exact spec_Determinant.mono _ _)
      | (with_reducible exact spec_EqualMatrices.mono _ _ _)
      | (with_reducible exact spec_Rectangular.mono _ _)
      | (with_reducible exact spec_Times.mono _ _ _)
      | (with_reducible exact spec_Unit.mono _ _)
      | (with_reducible exact LeO.refl _)
      | (with_reducible exact LeO.none _)
      | (with_reducible refine LeO.ite ?_ ?_)
      | (with_reducible refine LeO.bind ?_ (fun _ => ?_))
      | exact ih0 _ _
      | exact ih1 _ _ _ _
      | exact impl_Invert.mono _ _
      | exact laws_moderate.mono _ _
      | exact laws_zzFits2.mono _ _
      | exact spec_Determinant.mono _ _
      | exact spec_EqualMatrices.mono _ _ _
      | exact spec_Rectangular.mono _ _
      | exact spec_Times.mono _ _ _
      | exact spec_Unit.mono _ _
      | exact LeO.none _
      | refine LeO.ite ?_ ?_
      | refine LeO.bind ?_ (fun _ => ?_)
theorem laws_FnMatrixInverts.mono : ∀ a0 k, LeO (laws_FnMatrixInverts.f k a0) (laws_FnMatrixInverts.f (k + 1) a0) := by
  intro a0 k
  obtain ⟨ih0, ih1⟩ := laws_FnMatrixInverts.mono_l k
  unfold laws_FnMatrixInverts.f
  repeat' first
      | (with_reducible exact ih0 _ _)
      | (with_reducible exact ih1 _ _ _ _)
      | (with_reducible exact impl_Invert.mono _ _)
      | (with_reducible exact laws_moderate.mono _ _)
      | (with_reducible exact laws_zzFits2.mono _ _)
      | (with_reducible exact spec_Determinant.mono _ _)
      | (with_reducible exact spec_EqualMatrices.mono _ _ _)
      | (with_reducible exact spec_Rectangular.mono _ _)
      | (with_reducible exact spec_Times.mono _ _ _)
      | (with_reducible exact spec_Unit.mono _ _)
      | (with_reducible exact LeO.refl _)
      | (with_reducible exact LeO.none _)
      | (with_reducible refine LeO.ite ?_ ?_)
      | (with_reducible refine LeO.bind ?_ (fun _ => ?_))
      | exact ih0 _ _
      | exact ih1 _ _ _ _
      | exact impl_Invert.mono _ _
      | exact laws_moderate.mono _ _
      | exact laws_zzFits2.mono _ _
      | exact spec_Determinant.mono _ _
      | exact spec_EqualMatrices.mono _ _ _
      | exact spec_Rectangular.mono _ _
      | exact spec_Times.mono _ _ _
      | exact spec_Unit.mono _ _
      | exact LeO.none _
      | refine LeO.ite ?_ ?_
      | refine LeO.bind ?_ (fun _ => ?_)
set_option maxHeartbeats 8000000 in
set_option maxRecDepth 100000 in
theorem laws_FnMatrixInverts.calls (k : Nat) (P0_ : Nat → Prop) (A0 : Option Addr) (c0 : Nat) (l0 : List (List Int)) (r : Bool) (w : World) (hGE : GlobE w) (hGF : GlobF w) (hs0 : Kd.V (Kd.slice 5 (Kd.int .u8)) 22 w w.heap.size (fun k_ => P0_ k_) (.slice A0 l0.length c0) l0) (h : laws_FnMatrixInverts.f k l0 = some r) :
    Calls Tryd.prog 7 #[.slice A0 l0.length c0] w fun e w' => e = .returned (.bool r) ∧ Below w.heap.size w w' := by
  have HO0 := Aside0.mk (show Kd.V (Kd.slice 5 (Kd.int .u8)) 22 w w.heap.size (fun k_ => (P0_ k_ ∨ w.heap.size ≤ k_)) (.slice A0 l0.length c0) l0 from Kd.V_mono hs0 (fun k_ hk => .inl hk))
  have HB := Aside0.mk (Below.refl w.heap.size w)
  have H : ((laws_zzFits2.f k l0).bind fun t258 => (if t258 = true then (if (l0.length : Int) > 6 then (laws_FnMatrixInverts.j0 k l0 true) else ((laws_moderate.f k (([l0] : List (List (List Int))))).bind fun t262 => (laws_FnMatrixInverts.j0 k l0 (!t262)))) else (some true))) = some r := h
  clear h
  replace H := Option.bind_eq_some_iff.mp H
  obtain ⟨t258, A20, H⟩ := H
  replace H : (if t258 = true then (if (l0.length : Int) > 6 then (laws_FnMatrixInverts.j0 k l0 true) else ((laws_moderate.f k (([l0] : List (List (List Int))))).bind fun t262 => (laws_FnMatrixInverts.j0 k l0 (!t262)))) else (some true)) = some r := H
  have A2 := Aside0.mk A20
  clear A20
  by_cases c3 : t258 = true
  · subst c3
    have H1 : (if (l0.length : Int) > 6 then (laws_FnMatrixInverts.j0 k l0 true) else ((laws_moderate.f k (([l0] : List (List (List Int))))).bind fun t262 => (laws_FnMatrixInverts.j0 k l0 (!t262)))) = some r := by rw [if_pos rfl] at H; exact H
    clear H
    have H := H1
    clear H1
    have HC4 := Aside0.mk H
    clear H
    go_enter Tryd.func7, Tryd.ntmps7
    go_upto_region 3 with (first | ((with_reducible refine gate_callee (f := 13) rfl ?_); refine goesL_ (some 6) rfl rfl Tryd.func13 (by kernel_rfl) rfl #[.slice A0 l0.length c0] rfl (by (try simp only [List.map_toArray, List.map_cons, List.map_nil]); first | done | rfl | (simp only [List.length_drop, List.length_take]; rfl)) ?_; (with_reducible refine (laws_zzFits2.calls k _ _ l0 true _ ?side1 ?side2 A2.out).mono ?_); (case side1 => repeat (first | exact (Kd.V_reads' HO0.out).2.2 | (with_reducible refine Kd.C_alloc ?_ _) | (with_reducible refine Kd.C_drewN ?_ _) | (with_reducible refine Kd.C_drew ?_))); (case side2 => exact (Kd.V_reads' HO0.out).2.1); rintro e w' ⟨rfl, ⟨nd, rfl⟩⟩; refine ⟨_, rfl, ?_⟩))
    (try simp only [Act.put, List.setIfInBounds_toArray, List.set_cons_zero, List.set_cons_succ])
    go_cut [16] (fun v16 wc => ∃ (kq : Nat) (x16_3 : Bool), v16 = .bool x16_3 ∧ Aside0 (laws_FnMatrixInverts.j0 kq l0 x16_3 = some r) ∧ Aside0 (kq ≤ k) ∧ Aside0 (Kd.V (Kd.slice 5 (Kd.int .u8)) 22 wc w.heap.size (fun k_ => (P0_ k_ ∨ w.heap.size ≤ k_)) (.slice A0 l0.length c0) l0) ∧ Aside0 (Below w.heap.size w wc))
    case first =>
      have H := HC4.out
      clear HC4
      by_cases c5 : (l0.length : Int) > 6
      · rw [if_pos c5] at H
        have c5b0 : decide (6 < (l0.length : Int)) = true := decide_eq_true c5
        have c5b1 : decide (6 < l0.length) = true := decide_eq_true (by omega)
        clear c5
        (first | rw [c5b0] | (simp only [i64_w, i32_w]; rw [c5b0]) | skip)
        have H' := Aside0.mk H
        clear H
        go_wp2
        go_meet
        case rel => exact ⟨_, (true), (by first | rfl | (simp; done) | (simp [*]; done)), H', ⟨by first | omega | exact Nat.le_refl _⟩, ⟨by (with_reducible repeat (first | apply Kd.V_alloc | apply Kd.V_drewN | apply Kd.V_drew)); exact HO0.out⟩, ⟨by repeat (first | (with_reducible first | exact HB.out | apply below_alloc | apply pw_below_drewN | apply below_drew1) | exact HB.out)⟩⟩
      · rw [if_neg c5] at H
        have c5b0 : decide (6 < (l0.length : Int)) = false := decide_eq_false c5
        have c5b1 : decide (6 < l0.length) = false := decide_eq_false (by omega)
        clear c5
        (first | rw [c5b0] | (simp only [i64_w, i32_w]; rw [c5b0]) | skip)
        obtain ⟨y259, hy259⟩ : ∃ y_ : List (List (List Int)), y_ = (([l0] : List (List (List Int)))) := ⟨_, rfl⟩
        replace H : ((laws_moderate.f k y259).bind fun t262 => (laws_FnMatrixInverts.j0 k l0 (!t262))) = some r := by first | (rw [hy259]; with_reducible exact H) | (have H2_ := (Option.bind_some _ _).symm.trans H; rw [hy259]; with_reducible exact H2_) | (have H2_ := (Option.bind_some _ _).symm.trans H; with_reducible exact H2_) | with_reducible exact H | (rw [hy259]; exact H) | exact H
        have Ny259 := Aside0.mk hy259
        clear hy259
        replace H := Option.bind_eq_some_iff.mp H
        obtain ⟨t262, A60, H⟩ := H
        replace H : (laws_FnMatrixInverts.j0 k l0 (!t262)) = some r := H
        have A6 := Aside0.mk A60
        clear A60
        have H' := Aside0.mk H
        clear H
        go_wp2_with (first | ((with_reducible refine gate_dst (N := 13) rfl ?_); (try (refine gate_guard (by rfl) ?_; dsimp only)); refine Kd.N_lit (Kd.slice 22 (Kd.slice 5 (Kd.int .u8))) _ 30 ?hg (N' := 13) ?hd (xs := ([l0] : List (List (List Int)))) (inner := [.slice A0 l0.length c0]) (ok := (fun k_ => (P0_ k_ ∨ w.heap.size ≤ k_))) (okp := (fun k_ => (P0_ k_ ∨ w.heap.size ≤ k_))) ?hr ?hp (fun _ hk => hk) ((show ∀ k_, w.heap.size ≤ k_ → (fun k_ => (P0_ k_ ∨ w.heap.size ≤ k_)) k_ from fun k_ hk => (.inr (Nat.le_trans (below_size (by repeat (first | (with_reducible first | exact HB.out | apply below_alloc | apply pw_below_drewN | apply below_drew1) | exact HB.out))) hk))) _ (Nat.le_refl _)) (Below.refl _ _) (Nat.le_refl _) (by simp) ?_; (case hd => rfl); (case hg => rfl); (case hr => first | (go_simp; done) | (go_simp; rfl)); (case hp => exact (Reps.one (show Kd.FK (Kd.slice 22 (Kd.slice 5 (Kd.int .u8))) _ _ l0 [.slice A0 l0.length c0] from (Kd.FK_slice_mk (Kd.V_reads' (Kd.V_mono (ok' := (fun k_ => (P0_ k_ ∨ w.heap.size ≤ k_))) (by first | with_reducible exact HO0.out | with_reducible exact Kd.V_drewN HO0.out _) (fun k_ hk => hk))).2.1 (Kd.V_F (Kd.V_mono (ok' := (fun k_ => (P0_ k_ ∨ w.heap.size ≤ k_))) (by first | with_reducible exact HO0.out | with_reducible exact Kd.V_drewN HO0.out _) (fun k_ hk => hk))))) (Reps.none _ _))); intro v260 w7 ho8 hb hg_ hnew_; clear hg_ hnew_; (first | rw [← Ny259.out] at ho8 | (simp only [Int.reduceToNat] at ho8; rw [← Ny259.out] at ho8)); have n0_ := Aside0.mk (Kd.V_elder' (by (with_reducible repeat (first | apply Kd.V_alloc | apply Kd.V_drewN | apply Kd.V_drew)); exact HO0.out) (by first | exact Kd.N_base ho8 | exact Kd.S_base ho8 | exact Kd.N_base (Kd.S_N (Kd.S_bound ho8))) hb); have n1_ := Aside0.mk (Kd.N_lower ho8 (below_size (by repeat (first | (with_reducible first | exact HB.out | apply below_alloc | apply pw_below_drewN | apply below_drew1) | exact HB.out)))); have n2_ := Aside0.mk (below_step (by repeat (first | (with_reducible first | exact HB.out | apply below_alloc | apply pw_below_drewN | apply below_drew1) | exact HB.out)) hb); clear HO0; clear HB; have HO0 := n0_; have HO261 := n1_; have HB := n2_; clear n0_ n1_ n2_; clear hb ho8; obtain ⟨Ao9, co9, eo9⟩ := Kd.N_slice HO261.out; subst eo9) | (go_at_call 14; (with_reducible refine (laws_moderate.calls k _ _ y259 t262 _ ?side1 ?side2 A6.out).mono ?_); (case side1 => repeat (first | exact (Kd.N_reads' HO261.out).2.2 | (with_reducible refine Kd.C_alloc ?_ _) | (with_reducible refine Kd.C_drewN ?_ _) | (with_reducible refine Kd.C_drew ?_))); (case side2 => exact (Kd.N_reads' HO261.out).2.1); rintro e w' ⟨rfl, ⟨nd, rfl⟩⟩))
        go_meet
        case rel => exact ⟨_, (!t262), (by first | rfl | (simp; done) | (simp [*]; done)), H', ⟨by first | omega | exact Nat.le_refl _⟩, ⟨by (with_reducible repeat (first | apply Kd.V_alloc | apply Kd.V_drewN | apply Kd.V_drew)); exact Kd.V_mono HO0.out (fun _ hk => hk.1)⟩, ⟨by repeat (first | (with_reducible first | exact HB.out | apply below_alloc | apply pw_below_drewN | apply below_drew1) | exact HB.out)⟩⟩
    case rest =>
      clear HC4
      try clear c1
      try clear p2
      try clear c3
      try clear c5
      try clear c5b0
      try clear c5b1
      try clear c7
      obtain ⟨kq, x16_3, rfl, HA, HJ3, HO_0, HB⟩ := hcut
      cases kq with
      | zero => exact absurd HA.out (by simp [laws_FnMatrixInverts.j0])
      | succ kj3 =>
        have H := HA.out
        clear HA
        simp only [laws_FnMatrixInverts.j0] at H
        by_cases c10 : x16_3 = true
        · subst c10
          have H1 : (some true) = some r := by rw [if_pos rfl] at H; exact H
          clear H
          have H := H1
          clear H1
          obtain rfl := Option.some.inj H
          go_wp2
          go_ret
          exact ⟨by first | rfl | (simp [errW_none, errW_some] <;> rfl) | (simp [*, errW_none, errW_some] <;> rfl), by repeat (first | (with_reducible first | exact HB.out | apply below_alloc | apply pw_below_drewN | apply below_drew1) | exact HB.out)⟩
        · replace c10 := Bool.eq_false_iff.mpr c10
          subst c10
          have H1 : ((impl_Invert.f kj3 l0).bind fun bt263 => ((spec_Rectangular.f kj3 l0).bind fun t267 => (if t267 = true then ((spec_Columns.f l0).bind fun t268 => (if t268 = (l0.length : Int) then ((spec_Determinant.f kj3 l0).bind fun t269 => (laws_FnMatrixInverts.j1 kj3 l0 bt263.1 bt263.2 (t269 == 0))) else (laws_FnMatrixInverts.j1 kj3 l0 bt263.1 bt263.2 true))) else (laws_FnMatrixInverts.j1 kj3 l0 bt263.1 bt263.2 true)))) = some r := by rw [if_neg (show ¬ (false = true) by decide)] at H; exact H
          clear H
          have H := H1
          clear H1
          replace H := Option.bind_eq_some_iff.mp H
          obtain ⟨⟨t263, t264⟩, A110, H⟩ := H
          replace H : ((spec_Rectangular.f kj3 l0).bind fun t267 => (if t267 = true then ((spec_Columns.f l0).bind fun t268 => (if t268 = (l0.length : Int) then ((spec_Determinant.f kj3 l0).bind fun t269 => (laws_FnMatrixInverts.j1 kj3 l0 t263 t264 (t269 == 0))) else (laws_FnMatrixInverts.j1 kj3 l0 t263 t264 true))) else (laws_FnMatrixInverts.j1 kj3 l0 t263 t264 true))) = some r := H
          have A11 := Aside0.mk A110
          clear A110
          have HC12 := Aside0.mk H
          clear H
          go_upto_region 6 with (first | ((with_reducible refine gate_callee (f := 22) rfl ?_); refine goesL_ (some 19) rfl rfl Tryd.func22 (by kernel_rfl) rfl #[.slice A0 l0.length c0] rfl (by (try simp only [List.map_toArray, List.map_cons, List.map_nil]); first | done | rfl | (simp only [List.length_drop, List.length_take]; rfl)) ?_; (with_reducible refine (impl_Invert.calls kj3 _ _ l0 t263 t264 _ ?side3 ?side4 ?side1 ?side2 A11.out).mono ?_); (case side1 => repeat (first | exact (Kd.V_reads' HO_0.out).2.2 | (with_reducible refine Kd.C_alloc ?_ _) | (with_reducible refine Kd.C_drewN ?_ _) | (with_reducible refine Kd.C_drew ?_))); (case side2 => exact (Kd.V_reads' HO_0.out).2.1); (case side3 => exact GlobE.below hGE (by repeat (first | (with_reducible first | exact HB.out | apply below_alloc | apply pw_below_drewN | apply below_drew1) | exact HB.out))); (case side4 => exact GlobF.below hGF (by repeat (first | (with_reducible first | exact HB.out | apply below_alloc | apply pw_below_drewN | apply below_drew1) | exact HB.out))); rintro e w13 ⟨v265, rfl, ho0, hb⟩; refine ⟨_, rfl, ?_⟩; have n0_ := Aside0.mk (Kd.V_elder' (by (with_reducible repeat (first | apply Kd.V_alloc | apply Kd.V_drewN | apply Kd.V_drew)); exact HO_0.out) (by first | exact Kd.N_base ho0 | exact Kd.S_base ho0 | exact Kd.N_base (Kd.S_N (Kd.S_bound ho0))) hb); have n1_ := Aside0.mk (Kd.N_lower (Kd.N_mono (ok' := fun k_ => (P0_ k_ ∨ w.heap.size ≤ k_)) (Kd.S_N (Kd.S_bound ho0)) (fun k_ hk_ => (.inr (Nat.le_trans (below_size (by repeat (first | (with_reducible first | exact HB.out | apply below_alloc | apply pw_below_drewN | apply below_drew1) | exact HB.out))) hk_.2.1)))) (below_size (by repeat (first | (with_reducible first | exact HB.out | apply below_alloc | apply pw_below_drewN | apply below_drew1) | exact HB.out)))); have n2_ := Aside0.mk (below_step (by repeat (first | (with_reducible first | exact HB.out | apply below_alloc | apply pw_below_drewN | apply below_drew1) | exact HB.out)) hb); clear HO_0; clear HB; have HO_0 := n0_; have HO266 := n1_; have HB := n2_; clear n0_ n1_ n2_; (try clear hb); (try clear hb2); (try clear hk); (try clear hi); (try clear ho0)))
          (try simp only [Act.put, List.setIfInBounds_toArray, List.set_cons_zero, List.set_cons_succ])
          go_cut [36] (fun v36 wc => ∃ (kq : Nat) (x36_11 : Bool), v36 = .bool x36_11 ∧ Aside0 (laws_FnMatrixInverts.j1 kq l0 t263 t264 x36_11 = some r) ∧ Aside0 (kq ≤ kj3) ∧ Aside0 (Kd.V (Kd.slice 5 (Kd.int .u8)) 22 wc w.heap.size (fun k_ => (P0_ k_ ∨ w.heap.size ≤ k_) ∧ some k_ ≠ (v265 : Value).ownBlock) (.slice A0 l0.length c0) l0) ∧ Aside0 (Kd.N (Kd.slice 5 (Kd.int .u8)) 22 wc w.heap.size (fun k_ => (P0_ k_ ∨ w.heap.size ≤ k_)) v265 t263) ∧ Aside0 (Below w.heap.size w wc))
          case first =>
            have H := HC12.out
            clear HC12
            replace H := Option.bind_eq_some_iff.mp H
            obtain ⟨t267, A140, H⟩ := H
            replace H : (if t267 = true then ((spec_Columns.f l0).bind fun t268 => (if t268 = (l0.length : Int) then ((spec_Determinant.f kj3 l0).bind fun t269 => (laws_FnMatrixInverts.j1 kj3 l0 t263 t264 (t269 == 0))) else (laws_FnMatrixInverts.j1 kj3 l0 t263 t264 true))) else (laws_FnMatrixInverts.j1 kj3 l0 t263 t264 true)) = some r := H
            have A14 := Aside0.mk A140
            clear A140
            by_cases c15 : t267 = true
            · subst c15
              have H1 : ((spec_Columns.f l0).bind fun t268 => (if t268 = (l0.length : Int) then ((spec_Determinant.f kj3 l0).bind fun t269 => (laws_FnMatrixInverts.j1 kj3 l0 t263 t264 (t269 == 0))) else (laws_FnMatrixInverts.j1 kj3 l0 t263 t264 true))) = some r := by rw [if_pos rfl] at H; exact H
              clear H
              have H := H1
              clear H1
              replace H := Option.bind_eq_some_iff.mp H
              obtain ⟨t268, A160, H⟩ := H
              replace H : (if t268 = (l0.length : Int) then ((spec_Determinant.f kj3 l0).bind fun t269 => (laws_FnMatrixInverts.j1 kj3 l0 t263 t264 (t269 == 0))) else (laws_FnMatrixInverts.j1 kj3 l0 t263 t264 true)) = some r := H
              have A16 := Aside0.mk A160
              clear A160
              by_cases c17 : t268 = (l0.length : Int)
              · rw [if_pos c17] at H
                have c17b0 : (t268 == (l0.length : Int)) = true := beq_iff_eq.mpr c17
                have c17b1 : (t268 != (l0.length : Int)) = false := bne_eq_false_iff_eq.mpr c17
                clear c17
                (first | rw [c17b0] | (simp only [i64_w, i32_w]; rw [c17b0]) | skip)
                replace H := Option.bind_eq_some_iff.mp H
                obtain ⟨t269, A180, H⟩ := H
                replace H : (laws_FnMatrixInverts.j1 kj3 l0 t263 t264 (t269 == 0)) = some r := H
                have A18 := Aside0.mk A180
                clear A180
                have H' := Aside0.mk H
                clear H
                go_wp2_with (first | ((with_reducible refine gate_callee (f := 16) rfl ?_); refine goesL_ (some 23) rfl rfl Tryd.func16 (by kernel_rfl) rfl #[.slice A0 l0.length c0] rfl (by (try simp only [List.map_toArray, List.map_cons, List.map_nil]); first | done | rfl | (simp only [List.length_drop, List.length_take]; rfl)) ?_; (with_reducible refine (spec_Rectangular.calls kj3 _ _ l0 true _ ?side1 ?side2 A14.out).mono ?_); (case side1 => repeat (first | exact (Kd.V_reads' HO_0.out).2.2 | (with_reducible refine Kd.C_alloc ?_ _) | (with_reducible refine Kd.C_drewN ?_ _) | (with_reducible refine Kd.C_drew ?_))); (case side2 => exact (Kd.V_reads' HO_0.out).2.1); rintro e w' ⟨rfl, ⟨nd, rfl⟩⟩; refine ⟨_, rfl, ?_⟩) | (go_at_call 18; (with_reducible refine (spec_Columns.calls _ _ l0 t268 _ ?side1 ?side2 A16.out).mono ?_); (case side1 => repeat (first | exact (Kd.V_reads' HO_0.out).2.2 | (with_reducible refine Kd.C_alloc ?_ _) | (with_reducible refine Kd.C_drewN ?_ _) | (with_reducible refine Kd.C_drew ?_))); (case side2 => exact (Kd.V_reads' HO_0.out).2.1); rintro e w' ⟨rfl, ⟨nd, rfl⟩⟩) | (go_at_call 23; (with_reducible refine (spec_Determinant.calls kj3 _ _ l0 t269 _ ?side1 ?side2 A18.out).mono ?_); (case side1 => repeat (first | exact (Kd.V_reads' HO_0.out).2.2 | (with_reducible refine Kd.C_alloc ?_ _) | (with_reducible refine Kd.C_drewN ?_ _) | (with_reducible refine Kd.C_drew ?_))); (case side2 => exact (Kd.V_reads' HO_0.out).2.1); rintro e w19 ⟨rfl, hb⟩; have n0_ := Aside0.mk (Kd.V_below (by (with_reducible repeat (first | apply Kd.V_alloc | apply Kd.V_drewN | apply Kd.V_drew)); exact HO_0.out) hb); have n1_ := Aside0.mk (Kd.N_below (by (with_reducible repeat (first | apply Kd.N_alloc | apply Kd.N_drewN | apply Kd.N_drew)); exact HO266.out) hb); have n2_ := Aside0.mk (below_step (by repeat (first | (with_reducible first | exact HB.out | apply below_alloc | apply pw_below_drewN | apply below_drew1) | exact HB.out)) hb); clear HO_0; clear HO266; clear HB; have HO_0 := n0_; have HO266 := n1_; have HB := n2_; clear n0_ n1_ n2_; (try clear hb); (try clear hb2); (try clear hk); (try clear hi)))
                go_meet
                case rel => exact ⟨_, ((t269 == 0)), (by first | rfl | (simp; done) | (simp [*]; done)), H', ⟨by have := HJ3.out; first | omega | exact Nat.le_refl _⟩, ⟨by (with_reducible repeat (first | apply Kd.V_alloc | apply Kd.V_drewN | apply Kd.V_drew)); exact HO_0.out⟩, ⟨by (with_reducible repeat (first | apply Kd.N_alloc | apply Kd.N_drewN | apply Kd.N_drew)); exact HO266.out⟩, ⟨by repeat (first | (with_reducible first | exact HB.out | apply below_alloc | apply pw_below_drewN | apply below_drew1) | exact HB.out)⟩⟩
              · rw [if_neg c17] at H
                have c17b0 : (t268 == (l0.length : Int)) = false := beq_eq_false_iff_ne.mpr c17
                have c17b1 : (t268 != (l0.length : Int)) = true := bne_iff_ne.mpr c17
                (first | rw [c17b0] | (simp only [i64_w, i32_w]; rw [c17b0]) | skip)
                have H' := Aside0.mk H
                clear H
                go_wp2_with (first | ((with_reducible refine gate_callee (f := 16) rfl ?_); refine goesL_ (some 23) rfl rfl Tryd.func16 (by kernel_rfl) rfl #[.slice A0 l0.length c0] rfl (by (try simp only [List.map_toArray, List.map_cons, List.map_nil]); first | done | rfl | (simp only [List.length_drop, List.length_take]; rfl)) ?_; (with_reducible refine (spec_Rectangular.calls kj3 _ _ l0 true _ ?side1 ?side2 A14.out).mono ?_); (case side1 => repeat (first | exact (Kd.V_reads' HO_0.out).2.2 | (with_reducible refine Kd.C_alloc ?_ _) | (with_reducible refine Kd.C_drewN ?_ _) | (with_reducible refine Kd.C_drew ?_))); (case side2 => exact (Kd.V_reads' HO_0.out).2.1); rintro e w' ⟨rfl, ⟨nd, rfl⟩⟩; refine ⟨_, rfl, ?_⟩) | (go_at_call 18; (with_reducible refine (spec_Columns.calls _ _ l0 t268 _ ?side1 ?side2 A16.out).mono ?_); (case side1 => repeat (first | exact (Kd.V_reads' HO_0.out).2.2 | (with_reducible refine Kd.C_alloc ?_ _) | (with_reducible refine Kd.C_drewN ?_ _) | (with_reducible refine Kd.C_drew ?_))); (case side2 => exact (Kd.V_reads' HO_0.out).2.1); rintro e w' ⟨rfl, ⟨nd, rfl⟩⟩))
                go_meet
                case rel => exact ⟨_, (true), (by first | rfl | (simp; done) | (simp [*]; done)), H', ⟨by have := HJ3.out; first | omega | exact Nat.le_refl _⟩, ⟨by (with_reducible repeat (first | apply Kd.V_alloc | apply Kd.V_drewN | apply Kd.V_drew)); exact HO_0.out⟩, ⟨by (with_reducible repeat (first | apply Kd.N_alloc | apply Kd.N_drewN | apply Kd.N_drew)); exact HO266.out⟩, ⟨by repeat (first | (with_reducible first | exact HB.out | apply below_alloc | apply pw_below_drewN | apply below_drew1) | exact HB.out)⟩⟩
            · replace c15 := Bool.eq_false_iff.mpr c15
              subst c15
              have H1 : (laws_FnMatrixInverts.j1 kj3 l0 t263 t264 true) = some r := by rw [if_neg (show ¬ (false = true) by decide)] at H; exact H
              clear H
              have H := H1
              clear H1
              have H' := Aside0.mk H
              clear H
              go_wp2_with (first | ((with_reducible refine gate_callee (f := 16) rfl ?_); refine goesL_ (some 23) rfl rfl Tryd.func16 (by kernel_rfl) rfl #[.slice A0 l0.length c0] rfl (by (try simp only [List.map_toArray, List.map_cons, List.map_nil]); first | done | rfl | (simp only [List.length_drop, List.length_take]; rfl)) ?_; (with_reducible refine (spec_Rectangular.calls kj3 _ _ l0 false _ ?side1 ?side2 A14.out).mono ?_); (case side1 => repeat (first | exact (Kd.V_reads' HO_0.out).2.2 | (with_reducible refine Kd.C_alloc ?_ _) | (with_reducible refine Kd.C_drewN ?_ _) | (with_reducible refine Kd.C_drew ?_))); (case side2 => exact (Kd.V_reads' HO_0.out).2.1); rintro e w' ⟨rfl, ⟨nd, rfl⟩⟩; refine ⟨_, rfl, ?_⟩))
              go_meet
              case rel => exact ⟨_, (true), (by first | rfl | (simp; done) | (simp [*]; done)), H', ⟨by have := HJ3.out; first | omega | exact Nat.le_refl _⟩, ⟨by (with_reducible repeat (first | apply Kd.V_alloc | apply Kd.V_drewN | apply Kd.V_drew)); exact HO_0.out⟩, ⟨by (with_reducible repeat (first | apply Kd.N_alloc | apply Kd.N_drewN | apply Kd.N_drew)); exact HO266.out⟩, ⟨by repeat (first | (with_reducible first | exact HB.out | apply below_alloc | apply pw_below_drewN | apply below_drew1) | exact HB.out)⟩⟩
          case rest =>
            clear HC12
            try clear c1
            try clear c2
            try clear p2
            try clear c3
            try clear c5
            try clear c5b0
            try clear c5b1
            try clear c7
            try clear c10
            try clear c13
            try clear c15
            try clear c16
            try clear c17
            try clear c17b0
            try clear c17b1
            try clear p2
            obtain ⟨kq, x36_11, rfl, HA, HJ11, HO_0, HO_3, HB⟩ := hcut
            cases kq with
            | zero => exact absurd HA.out (by simp [laws_FnMatrixInverts.j1])
            | succ kj11 =>
              have H := HA.out
              clear HA
              simp only [laws_FnMatrixInverts.j1] at H
              by_cases c20 : x36_11 = true
              · subst c20
                have H1 : (some (!t264)) = some r := by rw [if_pos rfl] at H; exact H
                clear H
                have H := H1
                clear H1
                obtain rfl := Option.some.inj H
                go_wp2
                go_ret
                exact ⟨by first | rfl | (simp [errW_none, errW_some] <;> rfl) | (simp [*, errW_none, errW_some] <;> rfl), by repeat (first | (with_reducible first | exact HB.out | apply below_alloc | apply pw_below_drewN | apply below_drew1) | exact HB.out)⟩
              · replace c20 := Bool.eq_false_iff.mpr c20
                subst c20
                have H1 : (if t264 = true then ((spec_Times.f kj11 l0 t263).bind fun t270 => ((spec_Unit.f kj11 (l0.length : Int)).bind fun t273 => ((spec_EqualMatrices.f kj11 t270 t273).bind fun t276 => (if t276 = true then ((spec_Times.f kj11 t263 l0).bind fun t277 => ((spec_Unit.f kj11 (l0.length : Int)).bind fun t280 => ((spec_EqualMatrices.f kj11 t277 t280).bind fun t283 => (some t283)))) else (some false))))) else (some false)) = some r := by rw [if_neg (show ¬ (false = true) by decide)] at H; exact H
                clear H
                have H := H1
                clear H1
                by_cases c21 : t264 = true
                · subst c21
                  have H1 : ((spec_Times.f kj11 l0 t263).bind fun t270 => ((spec_Unit.f kj11 (l0.length : Int)).bind fun t273 => ((spec_EqualMatrices.f kj11 t270 t273).bind fun t276 => (if t276 = true then ((spec_Times.f kj11 t263 l0).bind fun t277 => ((spec_Unit.f kj11 (l0.length : Int)).bind fun t280 => ((spec_EqualMatrices.f kj11 t277 t280).bind fun t283 => (some t283)))) else (some false))))) = some r := by rw [if_pos rfl] at H; exact H
                  clear H
                  have H := H1
                  clear H1
                  replace H := Option.bind_eq_some_iff.mp H
                  obtain ⟨t270, A220, H⟩ := H
                  replace H : ((spec_Unit.f kj11 (l0.length : Int)).bind fun t273 => ((spec_EqualMatrices.f kj11 t270 t273).bind fun t276 => (if t276 = true then ((spec_Times.f kj11 t263 l0).bind fun t277 => ((spec_Unit.f kj11 (l0.length : Int)).bind fun t280 => ((spec_EqualMatrices.f kj11 t277 t280).bind fun t283 => (some t283)))) else (some false)))) = some r := H
                  have A22 := Aside0.mk A220
                  clear A220
                  replace H := Option.bind_eq_some_iff.mp H
                  obtain ⟨t273, A230, H⟩ := H
                  replace H : ((spec_EqualMatrices.f kj11 t270 t273).bind fun t276 => (if t276 = true then ((spec_Times.f kj11 t263 l0).bind fun t277 => ((spec_Unit.f kj11 (l0.length : Int)).bind fun t280 => ((spec_EqualMatrices.f kj11 t277 t280).bind fun t283 => (some t283)))) else (some false))) = some r := H
                  have A23 := Aside0.mk A230
                  clear A230
                  replace H := Option.bind_eq_some_iff.mp H
                  obtain ⟨t276, A240, H⟩ := H
                  replace H : (if t276 = true then ((spec_Times.f kj11 t263 l0).bind fun t277 => ((spec_Unit.f kj11 (l0.length : Int)).bind fun t280 => ((spec_EqualMatrices.f kj11 t277 t280).bind fun t283 => (some t283)))) else (some false)) = some r := H
                  have A24 := Aside0.mk A240
                  clear A240
                  by_cases c25 : t276 = true
                  · subst c25
                    have H1 : ((spec_Times.f kj11 t263 l0).bind fun t277 => ((spec_Unit.f kj11 (l0.length : Int)).bind fun t280 => ((spec_EqualMatrices.f kj11 t277 t280).bind fun t283 => (some t283)))) = some r := by rw [if_pos rfl] at H; exact H
                    clear H
                    have H := H1
                    clear H1
                    replace H := Option.bind_eq_some_iff.mp H
                    obtain ⟨t277, A260, H⟩ := H
                    replace H : ((spec_Unit.f kj11 (l0.length : Int)).bind fun t280 => ((spec_EqualMatrices.f kj11 t277 t280).bind fun t283 => (some t283))) = some r := H
                    have A26 := Aside0.mk A260
                    clear A260
                    replace H := Option.bind_eq_some_iff.mp H
                    obtain ⟨t280, A270, H⟩ := H
                    replace H : ((spec_EqualMatrices.f kj11 t277 t280).bind fun t283 => (some t283)) = some r := H
                    have A27 := Aside0.mk A270
                    clear A270
                    replace H := Option.bind_eq_some_iff.mp H
                    obtain ⟨t283, A280, H⟩ := H
                    replace H : (some t283) = some r := H
                    have A28 := Aside0.mk A280
                    clear A280
                    obtain rfl := Option.some.inj H
                    obtain ⟨Ao29, co29, eo29⟩ := Kd.N_slice HO_3.out
                    subst eo29
                    go_wp2_with (first | (go_at_call 24; (with_reducible refine (spec_Times.calls kj11 _ _ l0 _ _ t263 t270 _ ?side1 ?side2 ?side3 ?side4 A22.out).mono ?_); (case side1 => repeat (first | exact (Kd.V_reads' HO_0.out).2.2 | (with_reducible refine Kd.C_alloc ?_ _) | (with_reducible refine Kd.C_drewN ?_ _) | (with_reducible refine Kd.C_drew ?_))); (case side2 => exact (Kd.V_reads' HO_0.out).2.1); (case side3 => repeat (first | exact (Kd.N_reads' HO_3.out).2.2 | (with_reducible refine Kd.C_alloc ?_ _) | (with_reducible refine Kd.C_drewN ?_ _) | (with_reducible refine Kd.C_drew ?_))); (case side4 => exact (Kd.N_reads' HO_3.out).2.1); rintro e w30 ⟨v271, rfl, ho0, hb⟩; have n0_ := Aside0.mk (Kd.V_elder' (by (with_reducible repeat (first | apply Kd.V_alloc | apply Kd.V_drewN | apply Kd.V_drew)); exact HO_0.out) (by first | exact Kd.N_base ho0 | exact Kd.S_base ho0 | exact Kd.N_base (Kd.S_N (Kd.S_bound ho0))) hb); have n1_ := Aside0.mk (Kd.N_elder' (by (with_reducible repeat (first | apply Kd.N_alloc | apply Kd.N_drewN | apply Kd.N_drew)); exact HO_3.out) (by first | exact Kd.N_base ho0 | exact Kd.S_base ho0 | exact Kd.N_base (Kd.S_N (Kd.S_bound ho0))) hb); have n2_ := Aside0.mk (Kd.N_lower (Kd.N_mono (ok' := fun k_ => (P0_ k_ ∨ w.heap.size ≤ k_) ∧ some k_ ≠ (.slice Ao29 t263.length co29 : Value).ownBlock) (Kd.S_N (Kd.S_bound ho0)) (fun k_ hk_ => ⟨(.inr (Nat.le_trans (below_size (by repeat (first | (with_reducible first | exact HB.out | apply below_alloc | apply pw_below_drewN | apply below_drew1) | exact HB.out))) hk_.2.1)), (Kd.fresh' (Kd.N_lt (by (with_reducible repeat (first | apply Kd.N_alloc | apply Kd.N_drewN | apply Kd.N_drew)); exact HO_3.out)) k_ hk_.2.1)⟩)) (below_size (by repeat (first | (with_reducible first | exact HB.out | apply below_alloc | apply pw_below_drewN | apply below_drew1) | exact HB.out)))); have n3_ := Aside0.mk (below_step (by repeat (first | (with_reducible first | exact HB.out | apply below_alloc | apply pw_below_drewN | apply below_drew1) | exact HB.out)) hb); clear HO_0; clear HO_3; clear HB; have HO_0 := n0_; have HO_3 := n1_; have HO272 := n2_; have HB := n3_; clear n0_ n1_ n2_ n3_; (try clear hb); (try clear hb2); (try clear hk); (try clear hi); (try clear ho0)) | (go_at_call 25; (with_reducible refine (spec_Unit.calls kj11 (l0.length : Int) t273 _ A23.out).mono ?_); rintro e w31 ⟨v274, rfl, ho0, hb⟩; have n0_ := Aside0.mk (Kd.V_elder' (by (with_reducible repeat (first | apply Kd.V_alloc | apply Kd.V_drewN | apply Kd.V_drew)); exact HO_0.out) (by first | exact Kd.N_base ho0 | exact Kd.S_base ho0 | exact Kd.N_base (Kd.S_N (Kd.S_bound ho0))) hb); have n1_ := Aside0.mk (Kd.N_elder' (by (with_reducible repeat (first | apply Kd.N_alloc | apply Kd.N_drewN | apply Kd.N_drew)); exact HO_3.out) (by first | exact Kd.N_base ho0 | exact Kd.S_base ho0 | exact Kd.N_base (Kd.S_N (Kd.S_bound ho0))) hb); have n2_ := Aside0.mk (Kd.N_elder' (by (with_reducible repeat (first | apply Kd.N_alloc | apply Kd.N_drewN | apply Kd.N_drew)); exact HO272.out) (by first | exact Kd.N_base ho0 | exact Kd.S_base ho0 | exact Kd.N_base (Kd.S_N (Kd.S_bound ho0))) hb); have n3_ := Aside0.mk (Kd.N_lower (Kd.N_mono (ok' := fun k_ => (P0_ k_ ∨ w.heap.size ≤ k_) ∧ some k_ ≠ (.slice Ao29 t263.length co29 : Value).ownBlock ∧ some k_ ≠ (v271 : Value).ownBlock) (Kd.S_N (Kd.S_bound ho0)) (fun k_ hk_ => ⟨(.inr (Nat.le_trans (below_size (by repeat (first | (with_reducible first | exact HB.out | apply below_alloc | apply pw_below_drewN | apply below_drew1) | exact HB.out))) hk_.2.1)), (Kd.fresh' (Kd.N_lt (by (with_reducible repeat (first | apply Kd.N_alloc | apply Kd.N_drewN | apply Kd.N_drew)); exact HO_3.out)) k_ hk_.2.1), (Kd.fresh' (Kd.N_lt (by (with_reducible repeat (first | apply Kd.N_alloc | apply Kd.N_drewN | apply Kd.N_drew)); exact HO272.out)) k_ hk_.2.1)⟩)) (below_size (by repeat (first | (with_reducible first | exact HB.out | apply below_alloc | apply pw_below_drewN | apply below_drew1) | exact HB.out)))); have n4_ := Aside0.mk (below_step (by repeat (first | (with_reducible first | exact HB.out | apply below_alloc | apply pw_below_drewN | apply below_drew1) | exact HB.out)) hb); clear HO_0; clear HO_3; clear HO272; clear HB; have HO_0 := n0_; have HO_3 := n1_; have HO272 := n2_; have HO275 := n3_; have HB := n4_; clear n0_ n1_ n2_ n3_ n4_; (try clear hb); (try clear hb2); (try clear hk); (try clear hi); (try clear ho0); obtain ⟨Ao32, co32, eo32⟩ := Kd.N_slice HO272.out; subst eo32; obtain ⟨Ao33, co33, eo33⟩ := Kd.N_slice HO275.out; subst eo33) | (go_at_call 19; (with_reducible refine (spec_EqualMatrices.calls kj11 _ _ t270 _ _ t273 true _ ?side1 ?side2 ?side3 ?side4 A24.out).mono ?_); (case side1 => repeat (first | exact (Kd.N_reads' HO272.out).2.2 | (with_reducible refine Kd.C_alloc ?_ _) | (with_reducible refine Kd.C_drewN ?_ _) | (with_reducible refine Kd.C_drew ?_))); (case side2 => exact (Kd.N_reads' HO272.out).2.1); (case side3 => repeat (first | exact (Kd.N_reads' HO275.out).2.2 | (with_reducible refine Kd.C_alloc ?_ _) | (with_reducible refine Kd.C_drewN ?_ _) | (with_reducible refine Kd.C_drew ?_))); (case side4 => exact (Kd.N_reads' HO275.out).2.1); rintro e w' ⟨rfl, ⟨nd, rfl⟩⟩) | (go_at_call 24; (with_reducible refine (spec_Times.calls kj11 _ _ t263 _ _ l0 t277 _ ?side1 ?side2 ?side3 ?side4 A26.out).mono ?_); (case side1 => repeat (first | exact (Kd.N_reads' HO_3.out).2.2 | (with_reducible refine Kd.C_alloc ?_ _) | (with_reducible refine Kd.C_drewN ?_ _) | (with_reducible refine Kd.C_drew ?_))); (case side2 => exact (Kd.N_reads' HO_3.out).2.1); (case side3 => repeat (first | exact (Kd.V_reads' HO_0.out).2.2 | (with_reducible refine Kd.C_alloc ?_ _) | (with_reducible refine Kd.C_drewN ?_ _) | (with_reducible refine Kd.C_drew ?_))); (case side4 => exact (Kd.V_reads' HO_0.out).2.1); rintro e w34 ⟨v278, rfl, ho0, hb⟩; have n0_ := Aside0.mk (Kd.V_elder' (by (with_reducible repeat (first | apply Kd.V_alloc | apply Kd.V_drewN | apply Kd.V_drew)); exact HO_0.out) (by first | exact Kd.N_base ho0 | exact Kd.S_base ho0 | exact Kd.N_base (Kd.S_N (Kd.S_bound ho0))) hb); have n1_ := Aside0.mk (Kd.N_elder' (by (with_reducible repeat (first | apply Kd.N_alloc | apply Kd.N_drewN | apply Kd.N_drew)); exact HO_3.out) (by first | exact Kd.N_base ho0 | exact Kd.S_base ho0 | exact Kd.N_base (Kd.S_N (Kd.S_bound ho0))) hb); have n2_ := Aside0.mk (Kd.N_elder' (by (with_reducible repeat (first | apply Kd.N_alloc | apply Kd.N_drewN | apply Kd.N_drew)); exact HO272.out) (by first | exact Kd.N_base ho0 | exact Kd.S_base ho0 | exact Kd.N_base (Kd.S_N (Kd.S_bound ho0))) hb); have n3_ := Aside0.mk (Kd.N_elder' (by (with_reducible repeat (first | apply Kd.N_alloc | apply Kd.N_drewN | apply Kd.N_drew)); exact HO275.out) (by first | exact Kd.N_base ho0 | exact Kd.S_base ho0 | exact Kd.N_base (Kd.S_N (Kd.S_bound ho0))) hb); have n4_ := Aside0.mk (Kd.N_lower (Kd.N_mono (ok' := fun k_ => (P0_ k_ ∨ w.heap.size ≤ k_) ∧ some k_ ≠ (.slice Ao29 t263.length co29 : Value).ownBlock ∧ some k_ ≠ (.slice Ao32 t270.length co32 : Value).ownBlock ∧ some k_ ≠ (.slice Ao33 t273.length co33 : Value).ownBlock) (Kd.S_N (Kd.S_bound ho0)) (fun k_ hk_ => ⟨(.inr (Nat.le_trans (below_size (by repeat (first | (with_reducible first | exact HB.out | apply below_alloc | apply pw_below_drewN | apply below_drew1) | exact HB.out))) hk_.2.1)), (Kd.fresh' (Kd.N_lt (by (with_reducible repeat (first | apply Kd.N_alloc | apply Kd.N_drewN | apply Kd.N_drew)); exact HO_3.out)) k_ hk_.2.1), (Kd.fresh' (Kd.N_lt (by (with_reducible repeat (first | apply Kd.N_alloc | apply Kd.N_drewN | apply Kd.N_drew)); exact HO272.out)) k_ hk_.2.1), (Kd.fresh' (Kd.N_lt (by (with_reducible repeat (first | apply Kd.N_alloc | apply Kd.N_drewN | apply Kd.N_drew)); exact HO275.out)) k_ hk_.2.1)⟩)) (below_size (by repeat (first | (with_reducible first | exact HB.out | apply below_alloc | apply pw_below_drewN | apply below_drew1) | exact HB.out)))); have n5_ := Aside0.mk (below_step (by repeat (first | (with_reducible first | exact HB.out | apply below_alloc | apply pw_below_drewN | apply below_drew1) | exact HB.out)) hb); clear HO_0; clear HO_3; clear HO272; clear HO275; clear HB; have HO_0 := n0_; have HO_3 := n1_; have HO272 := n2_; have HO275 := n3_; have HO279 := n4_; have HB := n5_; clear n0_ n1_ n2_ n3_ n4_ n5_; (try clear hb); (try clear hb2); (try clear hk); (try clear hi); (try clear ho0)) | (go_at_call 25; (with_reducible refine (spec_Unit.calls kj11 (l0.length : Int) t280 _ A27.out).mono ?_); rintro e w35 ⟨v281, rfl, ho0, hb⟩; have n0_ := Aside0.mk (Kd.V_elder' (by (with_reducible repeat (first | apply Kd.V_alloc | apply Kd.V_drewN | apply Kd.V_drew)); exact HO_0.out) (by first | exact Kd.N_base ho0 | exact Kd.S_base ho0 | exact Kd.N_base (Kd.S_N (Kd.S_bound ho0))) hb); have n1_ := Aside0.mk (Kd.N_elder' (by (with_reducible repeat (first | apply Kd.N_alloc | apply Kd.N_drewN | apply Kd.N_drew)); exact HO_3.out) (by first | exact Kd.N_base ho0 | exact Kd.S_base ho0 | exact Kd.N_base (Kd.S_N (Kd.S_bound ho0))) hb); have n2_ := Aside0.mk (Kd.N_elder' (by (with_reducible repeat (first | apply Kd.N_alloc | apply Kd.N_drewN | apply Kd.N_drew)); exact HO272.out) (by first | exact Kd.N_base ho0 | exact Kd.S_base ho0 | exact Kd.N_base (Kd.S_N (Kd.S_bound ho0))) hb); have n3_ := Aside0.mk (Kd.N_elder' (by (with_reducible repeat (first | apply Kd.N_alloc | apply Kd.N_drewN | apply Kd.N_drew)); exact HO275.out) (by first | exact Kd.N_base ho0 | exact Kd.S_base ho0 | exact Kd.N_base (Kd.S_N (Kd.S_bound ho0))) hb); have n4_ := Aside0.mk (Kd.N_elder' (by (with_reducible repeat (first | apply Kd.N_alloc | apply Kd.N_drewN | apply Kd.N_drew)); exact HO279.out) (by first | exact Kd.N_base ho0 | exact Kd.S_base ho0 | exact Kd.N_base (Kd.S_N (Kd.S_bound ho0))) hb); have n5_ := Aside0.mk (Kd.N_lower (Kd.N_mono (ok' := fun k_ => (P0_ k_ ∨ w.heap.size ≤ k_) ∧ some k_ ≠ (.slice Ao29 t263.length co29 : Value).ownBlock ∧ some k_ ≠ (.slice Ao32 t270.length co32 : Value).ownBlock ∧ some k_ ≠ (.slice Ao33 t273.length co33 : Value).ownBlock ∧ some k_ ≠ (v278 : Value).ownBlock) (Kd.S_N (Kd.S_bound ho0)) (fun k_ hk_ => ⟨(.inr (Nat.le_trans (below_size (by repeat (first | (with_reducible first | exact HB.out | apply below_alloc | apply pw_below_drewN | apply below_drew1) | exact HB.out))) hk_.2.1)), (Kd.fresh' (Kd.N_lt (by (with_reducible repeat (first | apply Kd.N_alloc | apply Kd.N_drewN | apply Kd.N_drew)); exact HO_3.out)) k_ hk_.2.1), (Kd.fresh' (Kd.N_lt (by (with_reducible repeat (first | apply Kd.N_alloc | apply Kd.N_drewN | apply Kd.N_drew)); exact HO272.out)) k_ hk_.2.1), (Kd.fresh' (Kd.N_lt (by (with_reducible repeat (first | apply Kd.N_alloc | apply Kd.N_drewN | apply Kd.N_drew)); exact HO275.out)) k_ hk_.2.1), (Kd.fresh' (Kd.N_lt (by (with_reducible repeat (first | apply Kd.N_alloc | apply Kd.N_drewN | apply Kd.N_drew)); exact HO279.out)) k_ hk_.2.1)⟩)) (below_size (by repeat (first | (with_reducible first | exact HB.out | apply below_alloc | apply pw_below_drewN | apply below_drew1) | exact HB.out)))); have n6_ := Aside0.mk (below_step (by repeat (first | (with_reducible first | exact HB.out | apply below_alloc | apply pw_below_drewN | apply below_drew1) | exact HB.out)) hb); clear HO_0; clear HO_3; clear HO272; clear HO275; clear HO279; clear HB; have HO_0 := n0_; have HO_3 := n1_; have HO272 := n2_; have HO275 := n3_; have HO279 := n4_; have HO282 := n5_; have HB := n6_; clear n0_ n1_ n2_ n3_ n4_ n5_ n6_; (try clear hb); (try clear hb2); (try clear hk); (try clear hi); (try clear ho0); obtain ⟨Ao36, co36, eo36⟩ := Kd.N_slice HO279.out; subst eo36; obtain ⟨Ao37, co37, eo37⟩ := Kd.N_slice HO282.out; subst eo37) | (go_at_call 19; (with_reducible refine (spec_EqualMatrices.calls kj11 _ _ t277 _ _ t280 t283 _ ?side1 ?side2 ?side3 ?side4 A28.out).mono ?_); (case side1 => repeat (first | exact (Kd.N_reads' HO279.out).2.2 | (with_reducible refine Kd.C_alloc ?_ _) | (with_reducible refine Kd.C_drewN ?_ _) | (with_reducible refine Kd.C_drew ?_))); (case side2 => exact (Kd.N_reads' HO279.out).2.1); (case side3 => repeat (first | exact (Kd.N_reads' HO282.out).2.2 | (with_reducible refine Kd.C_alloc ?_ _) | (with_reducible refine Kd.C_drewN ?_ _) | (with_reducible refine Kd.C_drew ?_))); (case side4 => exact (Kd.N_reads' HO282.out).2.1); rintro e w' ⟨rfl, ⟨nd, rfl⟩⟩))
                    go_ret
                    exact ⟨by first | rfl | (simp [errW_none, errW_some] <;> rfl) | (simp [*, errW_none, errW_some] <;> rfl), by repeat (first | (with_reducible first | exact HB.out | apply below_alloc | apply pw_below_drewN | apply below_drew1) | exact HB.out)⟩
                  · replace c25 := Bool.eq_false_iff.mpr c25
                    subst c25
                    have H1 : (some false) = some r := by rw [if_neg (show ¬ (false = true) by decide)] at H; exact H
                    clear H
                    have H := H1
                    clear H1
                    obtain rfl := Option.some.inj H
                    obtain ⟨Ao38, co38, eo38⟩ := Kd.N_slice HO_3.out
                    subst eo38
                    go_wp2_with (first | (go_at_call 24; (with_reducible refine (spec_Times.calls kj11 _ _ l0 _ _ t263 t270 _ ?side1 ?side2 ?side3 ?side4 A22.out).mono ?_); (case side1 => repeat (first | exact (Kd.V_reads' HO_0.out).2.2 | (with_reducible refine Kd.C_alloc ?_ _) | (with_reducible refine Kd.C_drewN ?_ _) | (with_reducible refine Kd.C_drew ?_))); (case side2 => exact (Kd.V_reads' HO_0.out).2.1); (case side3 => repeat (first | exact (Kd.N_reads' HO_3.out).2.2 | (with_reducible refine Kd.C_alloc ?_ _) | (with_reducible refine Kd.C_drewN ?_ _) | (with_reducible refine Kd.C_drew ?_))); (case side4 => exact (Kd.N_reads' HO_3.out).2.1); rintro e w39 ⟨v271, rfl, ho0, hb⟩; have n0_ := Aside0.mk (Kd.V_elder' (by (with_reducible repeat (first | apply Kd.V_alloc | apply Kd.V_drewN | apply Kd.V_drew)); exact HO_0.out) (by first | exact Kd.N_base ho0 | exact Kd.S_base ho0 | exact Kd.N_base (Kd.S_N (Kd.S_bound ho0))) hb); have n1_ := Aside0.mk (Kd.N_elder' (by (with_reducible repeat (first | apply Kd.N_alloc | apply Kd.N_drewN | apply Kd.N_drew)); exact HO_3.out) (by first | exact Kd.N_base ho0 | exact Kd.S_base ho0 | exact Kd.N_base (Kd.S_N (Kd.S_bound ho0))) hb); have n2_ := Aside0.mk (Kd.N_lower (Kd.N_mono (ok' := fun k_ => (P0_ k_ ∨ w.heap.size ≤ k_) ∧ some k_ ≠ (.slice Ao38 t263.length co38 : Value).ownBlock) (Kd.S_N (Kd.S_bound ho0)) (fun k_ hk_ => ⟨(.inr (Nat.le_trans (below_size (by repeat (first | (with_reducible first | exact HB.out | apply below_alloc | apply pw_below_drewN | apply below_drew1) | exact HB.out))) hk_.2.1)), (Kd.fresh' (Kd.N_lt (by (with_reducible repeat (first | apply Kd.N_alloc | apply Kd.N_drewN | apply Kd.N_drew)); exact HO_3.out)) k_ hk_.2.1)⟩)) (below_size (by repeat (first | (with_reducible first | exact HB.out | apply below_alloc | apply pw_below_drewN | apply below_drew1) | exact HB.out)))); have n3_ := Aside0.mk (below_step (by repeat (first | (with_reducible first | exact HB.out | apply below_alloc | apply pw_below_drewN | apply below_drew1) | exact HB.out)) hb); clear HO_0; clear HO_3; clear HB; have HO_0 := n0_; have HO_3 := n1_; have HO272 := n2_; have HB := n3_; clear n0_ n1_ n2_ n3_; (try clear hb); (try clear hb2); (try clear hk); (try clear hi); (try clear ho0)) | (go_at_call 25; (with_reducible refine (spec_Unit.calls kj11 (l0.length : Int) t273 _ A23.out).mono ?_); rintro e w40 ⟨v274, rfl, ho0, hb⟩; have n0_ := Aside0.mk (Kd.V_elder' (by (with_reducible repeat (first | apply Kd.V_alloc | apply Kd.V_drewN | apply Kd.V_drew)); exact HO_0.out) (by first | exact Kd.N_base ho0 | exact Kd.S_base ho0 | exact Kd.N_base (Kd.S_N (Kd.S_bound ho0))) hb); have n1_ := Aside0.mk (Kd.N_elder' (by (with_reducible repeat (first | apply Kd.N_alloc | apply Kd.N_drewN | apply Kd.N_drew)); exact HO_3.out) (by first | exact Kd.N_base ho0 | exact Kd.S_base ho0 | exact Kd.N_base (Kd.S_N (Kd.S_bound ho0))) hb); have n2_ := Aside0.mk (Kd.N_elder' (by (with_reducible repeat (first | apply Kd.N_alloc | apply Kd.N_drewN | apply Kd.N_drew)); exact HO272.out) (by first | exact Kd.N_base ho0 | exact Kd.S_base ho0 | exact Kd.N_base (Kd.S_N (Kd.S_bound ho0))) hb); have n3_ := Aside0.mk (Kd.N_lower (Kd.N_mono (ok' := fun k_ => (P0_ k_ ∨ w.heap.size ≤ k_) ∧ some k_ ≠ (.slice Ao38 t263.length co38 : Value).ownBlock ∧ some k_ ≠ (v271 : Value).ownBlock) (Kd.S_N (Kd.S_bound ho0)) (fun k_ hk_ => ⟨(.inr (Nat.le_trans (below_size (by repeat (first | (with_reducible first | exact HB.out | apply below_alloc | apply pw_below_drewN | apply below_drew1) | exact HB.out))) hk_.2.1)), (Kd.fresh' (Kd.N_lt (by (with_reducible repeat (first | apply Kd.N_alloc | apply Kd.N_drewN | apply Kd.N_drew)); exact HO_3.out)) k_ hk_.2.1), (Kd.fresh' (Kd.N_lt (by (with_reducible repeat (first | apply Kd.N_alloc | apply Kd.N_drewN | apply Kd.N_drew)); exact HO272.out)) k_ hk_.2.1)⟩)) (below_size (by repeat (first | (with_reducible first | exact HB.out | apply below_alloc | apply pw_below_drewN | apply below_drew1) | exact HB.out)))); have n4_ := Aside0.mk (below_step (by repeat (first | (with_reducible first | exact HB.out | apply below_alloc | apply pw_below_drewN | apply below_drew1) | exact HB.out)) hb); clear HO_0; clear HO_3; clear HO272; clear HB; have HO_0 := n0_; have HO_3 := n1_; have HO272 := n2_; have HO275 := n3_; have HB := n4_; clear n0_ n1_ n2_ n3_ n4_; (try clear hb); (try clear hb2); (try clear hk); (try clear hi); (try clear ho0); obtain ⟨Ao41, co41, eo41⟩ := Kd.N_slice HO272.out; subst eo41; obtain ⟨Ao42, co42, eo42⟩ := Kd.N_slice HO275.out; subst eo42) | (go_at_call 19; (with_reducible refine (spec_EqualMatrices.calls kj11 _ _ t270 _ _ t273 false _ ?side1 ?side2 ?side3 ?side4 A24.out).mono ?_); (case side1 => repeat (first | exact (Kd.N_reads' HO272.out).2.2 | (with_reducible refine Kd.C_alloc ?_ _) | (with_reducible refine Kd.C_drewN ?_ _) | (with_reducible refine Kd.C_drew ?_))); (case side2 => exact (Kd.N_reads' HO272.out).2.1); (case side3 => repeat (first | exact (Kd.N_reads' HO275.out).2.2 | (with_reducible refine Kd.C_alloc ?_ _) | (with_reducible refine Kd.C_drewN ?_ _) | (with_reducible refine Kd.C_drew ?_))); (case side4 => exact (Kd.N_reads' HO275.out).2.1); rintro e w' ⟨rfl, ⟨nd, rfl⟩⟩))
                    go_ret
                    exact ⟨by first | rfl | (simp [errW_none, errW_some] <;> rfl) | (simp [*, errW_none, errW_some] <;> rfl), by repeat (first | (with_reducible first | exact HB.out | apply below_alloc | apply pw_below_drewN | apply below_drew1) | exact HB.out)⟩
                · replace c21 := Bool.eq_false_iff.mpr c21
                  subst c21
                  have H1 : (some false) = some r := by rw [if_neg (show ¬ (false = true) by decide)] at H; exact H
                  clear H
                  have H := H1
                  clear H1
                  obtain rfl := Option.some.inj H
                  go_wp2
                  go_ret
                  exact ⟨by first | rfl | (simp [errW_none, errW_some] <;> rfl) | (simp [*, errW_none, errW_some] <;> rfl), by repeat (first | (with_reducible first | exact HB.out | apply below_alloc | apply pw_below_drewN | apply below_drew1) | exact HB.out)⟩
  · replace c3 := Bool.eq_false_iff.mpr c3
    subst c3
    have H1 : (some true) = some r := by rw [if_neg (show ¬ (false = true) by decide)] at H; exact H
    clear H
    have H := H1
    clear H1
    obtain rfl := Option.some.inj H
    go_enter Tryd.func7, Tryd.ntmps7
    go_wp2_with (first | ((with_reducible refine gate_callee (f := 13) rfl ?_); refine goesL_ (some 6) rfl rfl Tryd.func13 (by kernel_rfl) rfl #[.slice A0 l0.length c0] rfl (by (try simp only [List.map_toArray, List.map_cons, List.map_nil]); first | done | rfl | (simp only [List.length_drop, List.length_take]; rfl)) ?_; (with_reducible refine (laws_zzFits2.calls k _ _ l0 false _ ?side1 ?side2 A2.out).mono ?_); (case side1 => repeat (first | exact (Kd.V_reads' HO0.out).2.2 | (with_reducible refine Kd.C_alloc ?_ _) | (with_reducible refine Kd.C_drewN ?_ _) | (with_reducible refine Kd.C_drew ?_))); (case side2 => exact (Kd.V_reads' HO0.out).2.1); rintro e w' ⟨rfl, ⟨nd, rfl⟩⟩; refine ⟨_, rfl, ?_⟩))
    go_ret
    exact ⟨by first | rfl | (simp [errW_none, errW_some] <;> rfl) | (simp [*, errW_none, errW_some] <;> rfl), by repeat (first | (with_reducible first | exact HB.out | apply below_alloc | apply pw_below_drewN | apply below_drew1) | exact HB.out)⟩
end Go.Proofs.YtpeikjnkbjabpaaDoor.P
