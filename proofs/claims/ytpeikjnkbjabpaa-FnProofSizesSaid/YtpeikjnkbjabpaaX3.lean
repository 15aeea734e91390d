-- laid by xprint.py (a program of this session over the kit's print); Lean checks it
import Derived.Test.YtpeikjnkbjabpaaX0
import Derived.Test.YtpeikjnkbjabpaaX2
namespace Go.Proofs.Ytpeikjnkbjabpaa.X
open Go.RowKit Go.Proofs.YtpeikjnkbjabpaaW.PrintWords Go.Proofs.YtpeikjnkbjabpaaW.PrintLast Go.Proofs.YtpeikjnkbjabpaaW.PrintMore
attribute [local go_sem] max2_int min2_int max_two min_two max_three min_three max_four min_four   -- for this text's walks alone
set_option linter.unusedVariables false
set_option linter.unusedSimpArgs false

/-! ### laws_scalable: function 12 -/
def laws_scalable.f (a0 : Int) (a1 : Int) : Option (Bool) := if a1 ≥ 0 then (if a1 ≤ 63 then (if 0 ≤ a1 then (some ((shr .u64 (shl .u64 a0 a1) a1) == a0)) else (none)) else (some false)) else (some false)
set_option maxHeartbeats 8000000 in
set_option maxRecDepth 100000 in
theorem laws_scalable.calls (a0 : Int) (a1 : Int) (r : Bool) (w : World) (h : laws_scalable.f a0 a1 = some r) :
    Calls Try.prog 12 #[.int .u64 a0, .int .i64 a1] w fun e w' => e = .returned (.bool r) ∧ Drawn0 w w' := by
  have H : (if a1 ≥ 0 then (if a1 ≤ 63 then (if 0 ≤ a1 then (some ((shr .u64 (shl .u64 a0 a1) a1) == a0)) else (none)) else (some false)) else (some false)) = some r := h
  clear h
  by_cases c3 : a1 ≥ 0
  · rw [if_pos c3] at H
    have c3b0 : decide (0 ≤ a1) = true := decide_eq_true c3
    clear c3
    by_cases c4 : a1 ≤ 63
    · rw [if_pos c4] at H
      have c4b0 : decide (a1 ≤ 63) = true := decide_eq_true c4
      clear c4
      by_cases c5 : 0 ≤ a1
      · rw [if_pos c5] at H
        have c5b0 := eq_true c5
        have c5b1 : decide (0 ≤ a1) = true := decide_eq_true c5
        clear c5
        obtain ⟨ji6, hji6⟩ : ∃ j_ : Int, (shl .u64 a0 a1) = j_ := ⟨_, rfl⟩
        replace H : (some ((shr .u64 (ji6) a1) == a0)) = some r := by first | (rw [hji6] at H; exact H) | (simp only [hji6] at H ⊢; exact H)
        have hji6_ : (IntKind.u64.wrap (a0 * 2 ^ min a1.toNat 64)) = ji6 := hji6
        have hji6z : a1 ≤ 64 → (IntKind.u64.wrap (a0 * 2 ^ a1.toNat)) = ji6 := shl_small hji6
        have c7b0 := eq_true (of_decide_eq_true (by first | (with_reducible assumption) | assumption) : 0 ≤ a1)
        obtain ⟨ji8, hji8⟩ : ∃ j_ : Int, (shr .u64 (ji6) a1) = j_ := ⟨_, rfl⟩
        replace H : (some ((ji8) == a0)) = some r := by first | (rw [hji8] at H; exact H) | (simp only [hji8] at H ⊢; exact H)
        have hji8_ : ((ji6) / 2 ^ min a1.toNat 64) = ji8 := hji8
        have hji8z : a1 ≤ 64 → ((ji6) / 2 ^ a1.toNat) = ji8 := shr_small hji8
        obtain rfl := Option.some.inj H
        go_enter Try.func12, Try.ntmps12
        go_wp2
        go_ret
        exact ⟨by first | rfl | (simp; done) | (simp only [← hji6, ← hji8] <;> (first | rfl | simp)) | (simp [*]; done), by repeat (first | exact Drawn0.refl _ | apply Drawn0.step)⟩
      · rw [if_neg c5] at H
        exact absurd H (by simp)
    · rw [if_neg c4] at H
      have c4b0 : decide (a1 ≤ 63) = false := decide_eq_false c4
      clear c4
      obtain rfl := Option.some.inj H
      go_enter Try.func12, Try.ntmps12
      go_wp2
      go_ret
      exact ⟨by first | rfl | (simp; done) | (simp [*]; done), by repeat (first | exact Drawn0.refl _ | apply Drawn0.step)⟩
  · rw [if_neg c3] at H
    have c3b0 : decide (0 ≤ a1) = false := decide_eq_false c3
    clear c3
    obtain rfl := Option.some.inj H
    go_enter Try.func12, Try.ntmps12
    go_wp2
    go_ret
    exact ⟨by first | rfl | (simp; done) | (simp [*]; done), by repeat (first | exact Drawn0.refl _ | apply Drawn0.step)⟩

/-! ### laws_FnDecomposeScaled: function 5 -/
def laws_FnDecomposeScaled.j0 : Nat → Int → Int → Int → Bool → Option (Bool)
  | 0, _, _, _, _ => none
  | k + 1, x0, x1, x2, x19 => if x19 = true then (some true) else ((impl_Decompose.f x0 x1).bind fun bt135 => (if 0 ≤ x2 then ((impl_Decompose.f (shl .u64 x0 x2) (shl .u64 x1 x2)).bind fun bt137 => (if bt137.1 = (shl .u64 bt135.1 x2) then (if bt137.2 = (shl .u64 bt135.2 x2) then (some ((IntKind.u64.wrap (bt135.1 + bt135.2)) == (IntKind.u64.wrap (x1 - x0)))) else (some false)) else (some false))) else (none)))
def laws_FnDecomposeScaled.f (k : Nat) (a0 : Int) (a1 : Int) (a2 : Int) : Option (Bool) := if a0 > a1 then (laws_FnDecomposeScaled.j0 k a0 a1 a2 true) else ((laws_scalable.f a1 a2).bind fun t134 => (laws_FnDecomposeScaled.j0 k a0 a1 a2 (!t134)))
theorem laws_FnDecomposeScaled.mono_l : ∀ k, (∀ y0 y1 y2 y3, LeO (laws_FnDecomposeScaled.j0 k y0 y1 y2 y3) (laws_FnDecomposeScaled.j0 (k + 1) y0 y1 y2 y3))
  | 0 => fun _ _ _ _ r h => by simp [laws_FnDecomposeScaled.j0] at h
  | k + 1 => by
    have ih0 := laws_FnDecomposeScaled.mono_l k
    · intro y0 y1 y2 y3
      unfold laws_FnDecomposeScaled.j0
      repeat' first
      | (with_reducible exact ih0 _ _ _ _)
      | (with_reducible exact LeO.refl _)
      | (with_reducible exact LeO.none _)
      | (with_reducible refine LeO.ite ?_ ?_)
      | (with_reducible refine LeO.bind ?_ (fun _ => ?_))
      | exact ih0 _ _ _ _
      | exact LeO.none _
      | refine LeO.ite ?_ ?_
      | refine LeO.bind ?_ (fun _ => ?_)
theorem laws_FnDecomposeScaled.mono : ∀ a0 a1 a2 k, LeO (laws_FnDecomposeScaled.f k a0 a1 a2) (laws_FnDecomposeScaled.f (k + 1) a0 a1 a2) := by
  intro a0 a1 a2 k
  have ih0 := laws_FnDecomposeScaled.mono_l k
  unfold laws_FnDecomposeScaled.f
  repeat' first
      | (with_reducible exact ih0 _ _ _ _)
      | (with_reducible exact LeO.refl _)
      | (with_reducible exact LeO.none _)
      | (with_reducible refine LeO.ite ?_ ?_)
      | (with_reducible refine LeO.bind ?_ (fun _ => ?_))
      | exact ih0 _ _ _ _
      | exact LeO.none _
      | refine LeO.ite ?_ ?_
      | refine LeO.bind ?_ (fun _ => ?_)
set_option maxHeartbeats 8000000 in
set_option maxRecDepth 100000 in
theorem laws_FnDecomposeScaled.calls (k : Nat) (a0 : Int) (a1 : Int) (a2 : Int) (r : Bool) (w : World) (h : laws_FnDecomposeScaled.f k a0 a1 a2 = some r) :
    Calls Try.prog 5 #[.int .u64 a0, .int .u64 a1, .int .i64 a2] w fun e w' => e = .returned (.bool r) ∧ Drawn0 w w' := by
  have H : (if a0 > a1 then (laws_FnDecomposeScaled.j0 k a0 a1 a2 true) else ((laws_scalable.f a1 a2).bind fun t134 => (laws_FnDecomposeScaled.j0 k a0 a1 a2 (!t134)))) = some r := h
  clear h
  have HC4 := Aside0.mk H
  clear H
  go_enter Try.func5, Try.ntmps5
  go_upto_region 1 with (fail)
  repeat (go_quiet (fail); go_upto_region 1 with (fail))
  go_cut [19] (fun v19 wc => ∃ (kq : Nat) (x19_3 : Bool), v19 = .bool x19_3 ∧ Aside0 (laws_FnDecomposeScaled.j0 kq a0 a1 a2 x19_3 = some r) ∧ Aside0 (kq ≤ k) ∧ Drawn0 w wc)
  case first =>
    have H := HC4.out
    clear HC4
    by_cases c5 : a0 > a1
    · rw [if_pos c5] at H
      have c5b0 : decide (a1 < a0) = true := decide_eq_true c5
      clear c5
      (first | rw [c5b0] | (simp only [i64_w, i32_w]; rw [c5b0]) | skip)
      have H' := Aside0.mk H
      clear H
      go_wp2
      repeat (go_quiet (fail); try go_wp2)
      go_meet
      case rel => exact ⟨_, (true), (by first | rfl | (simp; done) | (simp [*]; done)), H', ⟨by first | omega | exact Nat.le_refl _⟩, by repeat (first | exact Drawn0.refl _ | apply Drawn0.step)⟩
    · rw [if_neg c5] at H
      have c5b0 : decide (a1 < a0) = false := decide_eq_false c5
      clear c5
      (first | rw [c5b0] | (simp only [i64_w, i32_w]; rw [c5b0]) | skip)
      replace H := Option.bind_eq_some_iff.mp H
      obtain ⟨t134, A60, H⟩ := H
      replace H : (laws_FnDecomposeScaled.j0 k a0 a1 a2 (!t134)) = some r := H
      have A6 := Aside0.mk A60
      clear A60
      have H' := Aside0.mk H
      clear H
      go_wp2_with (first | (go_at_call 12; (with_reducible refine (laws_scalable.calls a1 a2 t134 _ A6.out).mono ?_); rintro e w' ⟨rfl, ⟨nd, rfl⟩⟩; (try first | exact ⟨rfl, _, World.drewN_drewN _ _ _⟩ | exact ⟨rfl, _, Eq.trans (World.drewN_drewN _ _ _) (congrArg (World.drewN _) (Nat.add_assoc _ _ _))⟩)))
      repeat (go_quiet (first | (go_at_call 12; (with_reducible refine (laws_scalable.calls a1 a2 t134 _ A6.out).mono ?_); rintro e w' ⟨rfl, ⟨nd, rfl⟩⟩; (try first | exact ⟨rfl, _, World.drewN_drewN _ _ _⟩ | exact ⟨rfl, _, Eq.trans (World.drewN_drewN _ _ _) (congrArg (World.drewN _) (Nat.add_assoc _ _ _))⟩))); try go_wp2_with (first | (go_at_call 12; (with_reducible refine (laws_scalable.calls a1 a2 t134 _ A6.out).mono ?_); rintro e w' ⟨rfl, ⟨nd, rfl⟩⟩; (try first | exact ⟨rfl, _, World.drewN_drewN _ _ _⟩ | exact ⟨rfl, _, Eq.trans (World.drewN_drewN _ _ _) (congrArg (World.drewN _) (Nat.add_assoc _ _ _))⟩))))
      go_meet
      case rel => exact ⟨_, (!t134), (by first | rfl | (simp; done) | (simp [*]; done)), H', ⟨by first | omega | exact Nat.le_refl _⟩, by repeat (first | exact Drawn0.refl _ | apply Drawn0.step)⟩
  case rest =>
    clear HC4
    try clear p2
    try clear c5
    try clear c5b0
    obtain ⟨kq, x19_3, rfl, HA, HJ3, ⟨mc3, rfl⟩⟩ := hcut
    cases kq with
    | zero => exact absurd HA.out (by simp [laws_FnDecomposeScaled.j0])
    | succ kj3 =>
      have H := HA.out
      clear HA
      simp only [laws_FnDecomposeScaled.j0] at H
      by_cases c7 : x19_3 = true
      · subst c7
        have H1 : (some true) = some r := by rw [if_pos rfl] at H; exact H
        clear H
        have H := H1
        clear H1
        obtain rfl := Option.some.inj H
        go_wp2
        repeat (go_quiet (fail); try go_wp2)
        go_ret
        exact ⟨by first | rfl | (simp; done) | (simp [*]; done), by repeat (first | exact Drawn0.refl _ | apply Drawn0.step)⟩
      · replace c7 := Bool.eq_false_iff.mpr c7
        subst c7
        have H1 : ((impl_Decompose.f a0 a1).bind fun bt135 => (if 0 ≤ a2 then ((impl_Decompose.f (shl .u64 a0 a2) (shl .u64 a1 a2)).bind fun bt137 => (if bt137.1 = (shl .u64 bt135.1 a2) then (if bt137.2 = (shl .u64 bt135.2 a2) then (some ((IntKind.u64.wrap (bt135.1 + bt135.2)) == (IntKind.u64.wrap (a1 - a0)))) else (some false)) else (some false))) else (none))) = some r := by rw [if_neg (show ¬ (false = true) by decide)] at H; exact H
        clear H
        have H := H1
        clear H1
        replace H := Option.bind_eq_some_iff.mp H
        obtain ⟨⟨t135, t136⟩, A80, H⟩ := H
        replace H : (if 0 ≤ a2 then ((impl_Decompose.f (shl .u64 a0 a2) (shl .u64 a1 a2)).bind fun bt137 => (if bt137.1 = (shl .u64 t135 a2) then (if bt137.2 = (shl .u64 t136 a2) then (some ((IntKind.u64.wrap (t135 + t136)) == (IntKind.u64.wrap (a1 - a0)))) else (some false)) else (some false))) else (none)) = some r := H
        have A8 := Aside0.mk A80
        clear A80
        by_cases c9 : 0 ≤ a2
        · rw [if_pos c9] at H
          have c9b0 := eq_true c9
          have c9b1 : decide (0 ≤ a2) = true := decide_eq_true c9
          clear c9
          obtain ⟨ji10, hji10⟩ : ∃ j_ : Int, (shl .u64 a0 a2) = j_ := ⟨_, rfl⟩
          replace H : ((impl_Decompose.f (ji10) (shl .u64 a1 a2)).bind fun bt137 => (if bt137.1 = (shl .u64 t135 a2) then (if bt137.2 = (shl .u64 t136 a2) then (some ((IntKind.u64.wrap (t135 + t136)) == (IntKind.u64.wrap (a1 - a0)))) else (some false)) else (some false))) = some r := by first | (rw [hji10] at H; exact H) | (simp only [hji10] at H ⊢; exact H)
          (try rw [hji10] at A8)
          have hji10_ : (IntKind.u64.wrap (a0 * 2 ^ min a2.toNat 64)) = ji10 := hji10
          have hji10z : a2 ≤ 64 → (IntKind.u64.wrap (a0 * 2 ^ a2.toNat)) = ji10 := shl_small hji10
          have c11b0 := eq_true (of_decide_eq_true (by first | (with_reducible assumption) | assumption) : 0 ≤ a2)
          obtain ⟨ji12, hji12⟩ : ∃ j_ : Int, (shl .u64 a1 a2) = j_ := ⟨_, rfl⟩
          replace H : ((impl_Decompose.f (ji10) (ji12)).bind fun bt137 => (if bt137.1 = (shl .u64 t135 a2) then (if bt137.2 = (shl .u64 t136 a2) then (some ((IntKind.u64.wrap (t135 + t136)) == (IntKind.u64.wrap (a1 - a0)))) else (some false)) else (some false))) = some r := by first | (rw [hji12] at H; exact H) | (simp only [hji12] at H ⊢; exact H)
          (try rw [hji12] at A8)
          have hji12_ : (IntKind.u64.wrap (a1 * 2 ^ min a2.toNat 64)) = ji12 := hji12
          have hji12z : a2 ≤ 64 → (IntKind.u64.wrap (a1 * 2 ^ a2.toNat)) = ji12 := shl_small hji12
          replace H := Option.bind_eq_some_iff.mp H
          obtain ⟨⟨t137, t138⟩, A130, H⟩ := H
          replace H : (if t137 = (shl .u64 t135 a2) then (if t138 = (shl .u64 t136 a2) then (some ((IntKind.u64.wrap (t135 + t136)) == (IntKind.u64.wrap (a1 - a0)))) else (some false)) else (some false)) = some r := H
          have A13 := Aside0.mk A130
          clear A130
          have c14b0 := eq_true (of_decide_eq_true (by first | (with_reducible assumption) | assumption) : 0 ≤ a2)
          obtain ⟨ji15, hji15⟩ : ∃ j_ : Int, (shl .u64 t135 a2) = j_ := ⟨_, rfl⟩
          replace H : (if t137 = (ji15) then (if t138 = (shl .u64 t136 a2) then (some ((IntKind.u64.wrap (t135 + t136)) == (IntKind.u64.wrap (a1 - a0)))) else (some false)) else (some false)) = some r := by first | (rw [hji15] at H; exact H) | (simp only [hji15] at H ⊢; exact H)
          (try rw [hji15] at A8)
          (try rw [hji15] at A13)
          have hji15_ : (IntKind.u64.wrap (t135 * 2 ^ min a2.toNat 64)) = ji15 := hji15
          have hji15z : a2 ≤ 64 → (IntKind.u64.wrap (t135 * 2 ^ a2.toNat)) = ji15 := shl_small hji15
          by_cases c16 : t137 = (ji15)
          · rw [if_pos c16] at H
            have c16b0 : (t137 == (ji15)) = true := beq_iff_eq.mpr c16
            have c16b1 : (t137 != (ji15)) = false := bne_eq_false_iff_eq.mpr c16
            clear c16
            have c17b0 := eq_true (of_decide_eq_true (by first | (with_reducible assumption) | assumption) : 0 ≤ a2)
            obtain ⟨ji18, hji18⟩ : ∃ j_ : Int, (shl .u64 t136 a2) = j_ := ⟨_, rfl⟩
            replace H : (if t138 = (ji18) then (some ((IntKind.u64.wrap (t135 + t136)) == (IntKind.u64.wrap (a1 - a0)))) else (some false)) = some r := by first | (rw [hji18] at H; exact H) | (simp only [hji18] at H ⊢; exact H)
            (try rw [hji18] at A8)
            (try rw [hji18] at A13)
            have hji18_ : (IntKind.u64.wrap (t136 * 2 ^ min a2.toNat 64)) = ji18 := hji18
            have hji18z : a2 ≤ 64 → (IntKind.u64.wrap (t136 * 2 ^ a2.toNat)) = ji18 := shl_small hji18
            by_cases c19 : t138 = (ji18)
            · rw [if_pos c19] at H
              have c19b0 : (t138 == (ji18)) = true := beq_iff_eq.mpr c19
              have c19b1 : (t138 != (ji18)) = false := bne_eq_false_iff_eq.mpr c19
              clear c19
              obtain rfl := Option.some.inj H
              go_wp2_with (first | (go_at_call 10; (with_reducible refine (impl_Decompose.calls a0 a1 t135 t136 _ A8.out).mono ?_); rintro e w' ⟨rfl, ⟨nd, rfl⟩⟩; (try first | exact ⟨rfl, _, World.drewN_drewN _ _ _⟩ | exact ⟨rfl, _, Eq.trans (World.drewN_drewN _ _ _) (congrArg (World.drewN _) (Nat.add_assoc _ _ _))⟩)) | (go_at_call 10; (with_reducible refine (impl_Decompose.calls ji10 ji12 t137 t138 _ A13.out).mono ?_); rintro e w' ⟨rfl, ⟨nd, rfl⟩⟩; (try first | exact ⟨rfl, _, World.drewN_drewN _ _ _⟩ | exact ⟨rfl, _, Eq.trans (World.drewN_drewN _ _ _) (congrArg (World.drewN _) (Nat.add_assoc _ _ _))⟩)))
              repeat (go_quiet (first | (go_at_call 10; (with_reducible refine (impl_Decompose.calls a0 a1 t135 t136 _ A8.out).mono ?_); rintro e w' ⟨rfl, ⟨nd, rfl⟩⟩; (try first | exact ⟨rfl, _, World.drewN_drewN _ _ _⟩ | exact ⟨rfl, _, Eq.trans (World.drewN_drewN _ _ _) (congrArg (World.drewN _) (Nat.add_assoc _ _ _))⟩)) | (go_at_call 10; (with_reducible refine (impl_Decompose.calls ji10 ji12 t137 t138 _ A13.out).mono ?_); rintro e w' ⟨rfl, ⟨nd, rfl⟩⟩; (try first | exact ⟨rfl, _, World.drewN_drewN _ _ _⟩ | exact ⟨rfl, _, Eq.trans (World.drewN_drewN _ _ _) (congrArg (World.drewN _) (Nat.add_assoc _ _ _))⟩))); try go_wp2_with (first | (go_at_call 10; (with_reducible refine (impl_Decompose.calls a0 a1 t135 t136 _ A8.out).mono ?_); rintro e w' ⟨rfl, ⟨nd, rfl⟩⟩; (try first | exact ⟨rfl, _, World.drewN_drewN _ _ _⟩ | exact ⟨rfl, _, Eq.trans (World.drewN_drewN _ _ _) (congrArg (World.drewN _) (Nat.add_assoc _ _ _))⟩)) | (go_at_call 10; (with_reducible refine (impl_Decompose.calls ji10 ji12 t137 t138 _ A13.out).mono ?_); rintro e w' ⟨rfl, ⟨nd, rfl⟩⟩; (try first | exact ⟨rfl, _, World.drewN_drewN _ _ _⟩ | exact ⟨rfl, _, Eq.trans (World.drewN_drewN _ _ _) (congrArg (World.drewN _) (Nat.add_assoc _ _ _))⟩))))
              go_ret
              exact ⟨by first | rfl | (simp; done) | (simp only [← hji10, ← hji12, ← hji15, ← hji18] <;> (first | rfl | simp)) | (simp [*]; done), by repeat (first | exact Drawn0.refl _ | apply Drawn0.step)⟩
            · rw [if_neg c19] at H
              have c19b0 : (t138 == (ji18)) = false := beq_eq_false_iff_ne.mpr c19
              have c19b1 : (t138 != (ji18)) = true := bne_iff_ne.mpr c19
              obtain rfl := Option.some.inj H
              go_wp2_with (first | (go_at_call 10; (with_reducible refine (impl_Decompose.calls a0 a1 t135 t136 _ A8.out).mono ?_); rintro e w' ⟨rfl, ⟨nd, rfl⟩⟩; (try first | exact ⟨rfl, _, World.drewN_drewN _ _ _⟩ | exact ⟨rfl, _, Eq.trans (World.drewN_drewN _ _ _) (congrArg (World.drewN _) (Nat.add_assoc _ _ _))⟩)) | (go_at_call 10; (with_reducible refine (impl_Decompose.calls ji10 ji12 t137 t138 _ A13.out).mono ?_); rintro e w' ⟨rfl, ⟨nd, rfl⟩⟩; (try first | exact ⟨rfl, _, World.drewN_drewN _ _ _⟩ | exact ⟨rfl, _, Eq.trans (World.drewN_drewN _ _ _) (congrArg (World.drewN _) (Nat.add_assoc _ _ _))⟩)))
              repeat (go_quiet (first | (go_at_call 10; (with_reducible refine (impl_Decompose.calls a0 a1 t135 t136 _ A8.out).mono ?_); rintro e w' ⟨rfl, ⟨nd, rfl⟩⟩; (try first | exact ⟨rfl, _, World.drewN_drewN _ _ _⟩ | exact ⟨rfl, _, Eq.trans (World.drewN_drewN _ _ _) (congrArg (World.drewN _) (Nat.add_assoc _ _ _))⟩)) | (go_at_call 10; (with_reducible refine (impl_Decompose.calls ji10 ji12 t137 t138 _ A13.out).mono ?_); rintro e w' ⟨rfl, ⟨nd, rfl⟩⟩; (try first | exact ⟨rfl, _, World.drewN_drewN _ _ _⟩ | exact ⟨rfl, _, Eq.trans (World.drewN_drewN _ _ _) (congrArg (World.drewN _) (Nat.add_assoc _ _ _))⟩))); try go_wp2_with (first | (go_at_call 10; (with_reducible refine (impl_Decompose.calls a0 a1 t135 t136 _ A8.out).mono ?_); rintro e w' ⟨rfl, ⟨nd, rfl⟩⟩; (try first | exact ⟨rfl, _, World.drewN_drewN _ _ _⟩ | exact ⟨rfl, _, Eq.trans (World.drewN_drewN _ _ _) (congrArg (World.drewN _) (Nat.add_assoc _ _ _))⟩)) | (go_at_call 10; (with_reducible refine (impl_Decompose.calls ji10 ji12 t137 t138 _ A13.out).mono ?_); rintro e w' ⟨rfl, ⟨nd, rfl⟩⟩; (try first | exact ⟨rfl, _, World.drewN_drewN _ _ _⟩ | exact ⟨rfl, _, Eq.trans (World.drewN_drewN _ _ _) (congrArg (World.drewN _) (Nat.add_assoc _ _ _))⟩))))
              go_ret
              exact ⟨by first | rfl | (simp; done) | (simp only [← hji10, ← hji12, ← hji15, ← hji18] <;> (first | rfl | simp)) | (simp [*]; done), by repeat (first | exact Drawn0.refl _ | apply Drawn0.step)⟩
          · rw [if_neg c16] at H
            have c16b0 : (t137 == (ji15)) = false := beq_eq_false_iff_ne.mpr c16
            have c16b1 : (t137 != (ji15)) = true := bne_iff_ne.mpr c16
            obtain rfl := Option.some.inj H
            go_wp2_with (first | (go_at_call 10; (with_reducible refine (impl_Decompose.calls a0 a1 t135 t136 _ A8.out).mono ?_); rintro e w' ⟨rfl, ⟨nd, rfl⟩⟩; (try first | exact ⟨rfl, _, World.drewN_drewN _ _ _⟩ | exact ⟨rfl, _, Eq.trans (World.drewN_drewN _ _ _) (congrArg (World.drewN _) (Nat.add_assoc _ _ _))⟩)) | (go_at_call 10; (with_reducible refine (impl_Decompose.calls ji10 ji12 t137 t138 _ A13.out).mono ?_); rintro e w' ⟨rfl, ⟨nd, rfl⟩⟩; (try first | exact ⟨rfl, _, World.drewN_drewN _ _ _⟩ | exact ⟨rfl, _, Eq.trans (World.drewN_drewN _ _ _) (congrArg (World.drewN _) (Nat.add_assoc _ _ _))⟩)))
            repeat (go_quiet (first | (go_at_call 10; (with_reducible refine (impl_Decompose.calls a0 a1 t135 t136 _ A8.out).mono ?_); rintro e w' ⟨rfl, ⟨nd, rfl⟩⟩; (try first | exact ⟨rfl, _, World.drewN_drewN _ _ _⟩ | exact ⟨rfl, _, Eq.trans (World.drewN_drewN _ _ _) (congrArg (World.drewN _) (Nat.add_assoc _ _ _))⟩)) | (go_at_call 10; (with_reducible refine (impl_Decompose.calls ji10 ji12 t137 t138 _ A13.out).mono ?_); rintro e w' ⟨rfl, ⟨nd, rfl⟩⟩; (try first | exact ⟨rfl, _, World.drewN_drewN _ _ _⟩ | exact ⟨rfl, _, Eq.trans (World.drewN_drewN _ _ _) (congrArg (World.drewN _) (Nat.add_assoc _ _ _))⟩))); try go_wp2_with (first | (go_at_call 10; (with_reducible refine (impl_Decompose.calls a0 a1 t135 t136 _ A8.out).mono ?_); rintro e w' ⟨rfl, ⟨nd, rfl⟩⟩; (try first | exact ⟨rfl, _, World.drewN_drewN _ _ _⟩ | exact ⟨rfl, _, Eq.trans (World.drewN_drewN _ _ _) (congrArg (World.drewN _) (Nat.add_assoc _ _ _))⟩)) | (go_at_call 10; (with_reducible refine (impl_Decompose.calls ji10 ji12 t137 t138 _ A13.out).mono ?_); rintro e w' ⟨rfl, ⟨nd, rfl⟩⟩; (try first | exact ⟨rfl, _, World.drewN_drewN _ _ _⟩ | exact ⟨rfl, _, Eq.trans (World.drewN_drewN _ _ _) (congrArg (World.drewN _) (Nat.add_assoc _ _ _))⟩))))
            go_ret
            exact ⟨by first | rfl | (simp; done) | (simp only [← hji10, ← hji12, ← hji15] <;> (first | rfl | simp)) | (simp [*]; done), by repeat (first | exact Drawn0.refl _ | apply Drawn0.step)⟩
        · rw [if_neg c9] at H
          exact absurd H (by simp)

/-- THE ONE PURE STATEMENT of laws_FnDecomposeScaled: yours. -/
def laws_FnDecomposeScaled.Pure : Prop := ∀ (a0 : Int) (a1 : Int) (a2 : Int), (Lit.int .u64 a0).wf = true → (Lit.int .u64 a1).wf = true → (Lit.int .i64 a2).wf = true → ∃ k, laws_FnDecomposeScaled.f k a0 a1 a2 = some true
theorem laws_FnDecomposeScaled.walk (P : laws_FnDecomposeScaled.Pure) (a0 : Int) (a1 : Int) (a2 : Int) (w : World) (w0 : (Lit.int .u64 a0).wf = true) (w1 : (Lit.int .u64 a1).wf = true) (w2 : (Lit.int .i64 a2).wf = true) :
    Calls Try.prog 5 #[.int .u64 a0, .int .u64 a1, .int .i64 a2] w fun e w' => e = .returned (.bool true) ∧ Below w.heap.size w w' := by
  obtain ⟨k, h⟩ := P a0 a1 a2 w0 w1 w2
  refine (laws_FnDecomposeScaled.calls k a0 a1 a2 true w h).mono ?_
  rintro e w' ⟨rfl, hd⟩
  exact ⟨rfl, hd.below⟩

/-! ### proof_innerProofSize: function 30 -/
def proof_innerProofSize.f (a0 : Int) (a1 : Int) : Option (Int) := (bits_Len64.f (Go.bits .xor .u64 a0 (IntKind.u64.wrap (a1 - 1)))).bind fun t139 => (some t139)
set_option maxHeartbeats 8000000 in
set_option maxRecDepth 100000 in
theorem proof_innerProofSize.calls (a0 : Int) (a1 : Int) (r : Int) (w : World) (h : proof_innerProofSize.f a0 a1 = some r) :
    Calls Try.prog 30 #[.int .u64 a0, .int .u64 a1] w fun e w' => e = .returned (.int .i64 r) ∧ Drawn0 w w' := by
  have H : ((bits_Len64.f (Go.bits .xor .u64 a0 (IntKind.u64.wrap (a1 - 1)))).bind fun t139 => (some t139)) = some r := h
  clear h
  replace H := Option.bind_eq_some_iff.mp H
  obtain ⟨t139, A30, H⟩ := H
  replace H : (some t139) = some r := H
  have A3 := Aside0.mk A30
  clear A30
  obtain rfl := Option.some.inj H
  go_enter Try.func30, Try.ntmps30
  go_wp2_with (first | ((with_reducible refine gate_callee (f := 26) rfl ?_); refine goesL_ (some 9) rfl rfl Try.func26 (by kernel_rfl) rfl #[.int .u64 (Go.bits .xor .u64 a0 (IntKind.u64.wrap (a1 - 1)))] rfl (by (try simp only [List.map_toArray, List.map_cons, List.map_nil]); first | done | rfl | (simp only [List.length_drop, List.length_take]; rfl)) ?_; (with_reducible refine (bits_Len64.calls (Go.bits .xor .u64 a0 (IntKind.u64.wrap (a1 - 1))) t139 _ A3.out).mono ?_); rintro e w' ⟨rfl, ⟨nd, rfl⟩⟩; refine ⟨_, rfl, ?_⟩))
  go_ret
  exact ⟨by first | rfl | (simp; done) | (simp [*]; done), by repeat (first | exact Drawn0.refl _ | apply Drawn0.step)⟩

/-! ### bits_OnesCount64: function 31 -/
def bits_OnesCount64.f (a0 : Int) : Option (Int) := some (Go.bits .and .i64 (wrap64 (IntKind.u64.wrap ((IntKind.u64.wrap ((IntKind.u64.wrap ((Go.bits .and .u64 (IntKind.u64.wrap (((IntKind.u64.wrap ((Go.bits .and .u64 ((IntKind.u64.wrap ((Go.bits .and .u64 (a0 / 2) 6148914691236517205) + (Go.bits .and .u64 a0 6148914691236517205))) / 4) 3689348814741910323) + (Go.bits .and .u64 (IntKind.u64.wrap ((Go.bits .and .u64 (a0 / 2) 6148914691236517205) + (Go.bits .and .u64 a0 6148914691236517205))) 3689348814741910323))) / 16) + (IntKind.u64.wrap ((Go.bits .and .u64 ((IntKind.u64.wrap ((Go.bits .and .u64 (a0 / 2) 6148914691236517205) + (Go.bits .and .u64 a0 6148914691236517205))) / 4) 3689348814741910323) + (Go.bits .and .u64 (IntKind.u64.wrap ((Go.bits .and .u64 (a0 / 2) 6148914691236517205) + (Go.bits .and .u64 a0 6148914691236517205))) 3689348814741910323))))) 1085102592571150095) + ((Go.bits .and .u64 (IntKind.u64.wrap (((IntKind.u64.wrap ((Go.bits .and .u64 ((IntKind.u64.wrap ((Go.bits .and .u64 (a0 / 2) 6148914691236517205) + (Go.bits .and .u64 a0 6148914691236517205))) / 4) 3689348814741910323) + (Go.bits .and .u64 (IntKind.u64.wrap ((Go.bits .and .u64 (a0 / 2) 6148914691236517205) + (Go.bits .and .u64 a0 6148914691236517205))) 3689348814741910323))) / 16) + (IntKind.u64.wrap ((Go.bits .and .u64 ((IntKind.u64.wrap ((Go.bits .and .u64 (a0 / 2) 6148914691236517205) + (Go.bits .and .u64 a0 6148914691236517205))) / 4) 3689348814741910323) + (Go.bits .and .u64 (IntKind.u64.wrap ((Go.bits .and .u64 (a0 / 2) 6148914691236517205) + (Go.bits .and .u64 a0 6148914691236517205))) 3689348814741910323))))) 1085102592571150095) / 256))) + ((IntKind.u64.wrap ((Go.bits .and .u64 (IntKind.u64.wrap (((IntKind.u64.wrap ((Go.bits .and .u64 ((IntKind.u64.wrap ((Go.bits .and .u64 (a0 / 2) 6148914691236517205) + (Go.bits .and .u64 a0 6148914691236517205))) / 4) 3689348814741910323) + (Go.bits .and .u64 (IntKind.u64.wrap ((Go.bits .and .u64 (a0 / 2) 6148914691236517205) + (Go.bits .and .u64 a0 6148914691236517205))) 3689348814741910323))) / 16) + (IntKind.u64.wrap ((Go.bits .and .u64 ((IntKind.u64.wrap ((Go.bits .and .u64 (a0 / 2) 6148914691236517205) + (Go.bits .and .u64 a0 6148914691236517205))) / 4) 3689348814741910323) + (Go.bits .and .u64 (IntKind.u64.wrap ((Go.bits .and .u64 (a0 / 2) 6148914691236517205) + (Go.bits .and .u64 a0 6148914691236517205))) 3689348814741910323))))) 1085102592571150095) + ((Go.bits .and .u64 (IntKind.u64.wrap (((IntKind.u64.wrap ((Go.bits .and .u64 ((IntKind.u64.wrap ((Go.bits .and .u64 (a0 / 2) 6148914691236517205) + (Go.bits .and .u64 a0 6148914691236517205))) / 4) 3689348814741910323) + (Go.bits .and .u64 (IntKind.u64.wrap ((Go.bits .and .u64 (a0 / 2) 6148914691236517205) + (Go.bits .and .u64 a0 6148914691236517205))) 3689348814741910323))) / 16) + (IntKind.u64.wrap ((Go.bits .and .u64 ((IntKind.u64.wrap ((Go.bits .and .u64 (a0 / 2) 6148914691236517205) + (Go.bits .and .u64 a0 6148914691236517205))) / 4) 3689348814741910323) + (Go.bits .and .u64 (IntKind.u64.wrap ((Go.bits .and .u64 (a0 / 2) 6148914691236517205) + (Go.bits .and .u64 a0 6148914691236517205))) 3689348814741910323))))) 1085102592571150095) / 256))) / 65536))) + ((IntKind.u64.wrap ((IntKind.u64.wrap ((Go.bits .and .u64 (IntKind.u64.wrap (((IntKind.u64.wrap ((Go.bits .and .u64 ((IntKind.u64.wrap ((Go.bits .and .u64 (a0 / 2) 6148914691236517205) + (Go.bits .and .u64 a0 6148914691236517205))) / 4) 3689348814741910323) + (Go.bits .and .u64 (IntKind.u64.wrap ((Go.bits .and .u64 (a0 / 2) 6148914691236517205) + (Go.bits .and .u64 a0 6148914691236517205))) 3689348814741910323))) / 16) + (IntKind.u64.wrap ((Go.bits .and .u64 ((IntKind.u64.wrap ((Go.bits .and .u64 (a0 / 2) 6148914691236517205) + (Go.bits .and .u64 a0 6148914691236517205))) / 4) 3689348814741910323) + (Go.bits .and .u64 (IntKind.u64.wrap ((Go.bits .and .u64 (a0 / 2) 6148914691236517205) + (Go.bits .and .u64 a0 6148914691236517205))) 3689348814741910323))))) 1085102592571150095) + ((Go.bits .and .u64 (IntKind.u64.wrap (((IntKind.u64.wrap ((Go.bits .and .u64 ((IntKind.u64.wrap ((Go.bits .and .u64 (a0 / 2) 6148914691236517205) + (Go.bits .and .u64 a0 6148914691236517205))) / 4) 3689348814741910323) + (Go.bits .and .u64 (IntKind.u64.wrap ((Go.bits .and .u64 (a0 / 2) 6148914691236517205) + (Go.bits .and .u64 a0 6148914691236517205))) 3689348814741910323))) / 16) + (IntKind.u64.wrap ((Go.bits .and .u64 ((IntKind.u64.wrap ((Go.bits .and .u64 (a0 / 2) 6148914691236517205) + (Go.bits .and .u64 a0 6148914691236517205))) / 4) 3689348814741910323) + (Go.bits .and .u64 (IntKind.u64.wrap ((Go.bits .and .u64 (a0 / 2) 6148914691236517205) + (Go.bits .and .u64 a0 6148914691236517205))) 3689348814741910323))))) 1085102592571150095) / 256))) + ((IntKind.u64.wrap ((Go.bits .and .u64 (IntKind.u64.wrap (((IntKind.u64.wrap ((Go.bits .and .u64 ((IntKind.u64.wrap ((Go.bits .and .u64 (a0 / 2) 6148914691236517205) + (Go.bits .and .u64 a0 6148914691236517205))) / 4) 3689348814741910323) + (Go.bits .and .u64 (IntKind.u64.wrap ((Go.bits .and .u64 (a0 / 2) 6148914691236517205) + (Go.bits .and .u64 a0 6148914691236517205))) 3689348814741910323))) / 16) + (IntKind.u64.wrap ((Go.bits .and .u64 ((IntKind.u64.wrap ((Go.bits .and .u64 (a0 / 2) 6148914691236517205) + (Go.bits .and .u64 a0 6148914691236517205))) / 4) 3689348814741910323) + (Go.bits .and .u64 (IntKind.u64.wrap ((Go.bits .and .u64 (a0 / 2) 6148914691236517205) + (Go.bits .and .u64 a0 6148914691236517205))) 3689348814741910323))))) 1085102592571150095) + ((Go.bits .and .u64 (IntKind.u64.wrap (((IntKind.u64.wrap ((Go.bits .and .u64 ((IntKind.u64.wrap ((Go.bits .and .u64 (a0 / 2) 6148914691236517205) + (Go.bits .and .u64 a0 6148914691236517205))) / 4) 3689348814741910323) + (Go.bits .and .u64 (IntKind.u64.wrap ((Go.bits .and .u64 (a0 / 2) 6148914691236517205) + (Go.bits .and .u64 a0 6148914691236517205))) 3689348814741910323))) / 16) + (IntKind.u64.wrap ((Go.bits .and .u64 ((IntKind.u64.wrap ((Go.bits .and .u64 (a0 / 2) 6148914691236517205) + (Go.bits .and .u64 a0 6148914691236517205))) / 4) 3689348814741910323) + (Go.bits .and .u64 (IntKind.u64.wrap ((Go.bits .and .u64 (a0 / 2) 6148914691236517205) + (Go.bits .and .u64 a0 6148914691236517205))) 3689348814741910323))))) 1085102592571150095) / 256))) / 65536))) / 4294967296)))) 127)
set_option maxHeartbeats 8000000 in
set_option maxRecDepth 100000 in
theorem bits_OnesCount64.calls (a0 : Int) (r : Int) (w : World) (h : bits_OnesCount64.f a0 = some r) :
    Calls Try.prog 31 #[.int .u64 a0] w fun e w' => e = .returned (.int .i64 r) ∧ Drawn0 w w' := by
  have H : (some (Go.bits .and .i64 (wrap64 (IntKind.u64.wrap ((IntKind.u64.wrap ((IntKind.u64.wrap ((Go.bits .and .u64 (IntKind.u64.wrap (((IntKind.u64.wrap ((Go.bits .and .u64 ((IntKind.u64.wrap ((Go.bits .and .u64 (a0 / 2) 6148914691236517205) + (Go.bits .and .u64 a0 6148914691236517205))) / 4) 3689348814741910323) + (Go.bits .and .u64 (IntKind.u64.wrap ((Go.bits .and .u64 (a0 / 2) 6148914691236517205) + (Go.bits .and .u64 a0 6148914691236517205))) 3689348814741910323))) / 16) + (IntKind.u64.wrap ((Go.bits .and .u64 ((IntKind.u64.wrap ((Go.bits .and .u64 (a0 / 2) 6148914691236517205) + (Go.bits .and .u64 a0 6148914691236517205))) / 4) 3689348814741910323) + (Go.bits .and .u64 (IntKind.u64.wrap ((Go.bits .and .u64 (a0 / 2) 6148914691236517205) + (Go.bits .and .u64 a0 6148914691236517205))) 3689348814741910323))))) 1085102592571150095) + ((Go.bits .and .u64 (IntKind.u64.wrap (((IntKind.u64.wrap ((Go.bits .and .u64 ((IntKind.u64.wrap ((Go.bits .and .u64 (a0 / 2) 6148914691236517205) + (Go.bits .and .u64 a0 6148914691236517205))) / 4) 3689348814741910323) + (Go.bits .and .u64 (IntKind.u64.wrap ((Go.bits .and .u64 (a0 / 2) 6148914691236517205) + (Go.bits .and .u64 a0 6148914691236517205))) 3689348814741910323))) / 16) + (IntKind.u64.wrap ((Go.bits .and .u64 ((IntKind.u64.wrap ((Go.bits .and .u64 (a0 / 2) 6148914691236517205) + (Go.bits .and .u64 a0 6148914691236517205))) / 4) 3689348814741910323) + (Go.bits .and .u64 (IntKind.u64.wrap ((Go.bits .and .u64 (a0 / 2) 6148914691236517205) + (Go.bits .and .u64 a0 6148914691236517205))) 3689348814741910323))))) 1085102592571150095) / 256))) + ((IntKind.u64.wrap ((Go.bits .and .u64 (IntKind.u64.wrap (((IntKind.u64.wrap ((Go.bits .and .u64 ((IntKind.u64.wrap ((Go.bits .and .u64 (a0 / 2) 6148914691236517205) + (Go.bits .and .u64 a0 6148914691236517205))) / 4) 3689348814741910323) + (Go.bits .and .u64 (IntKind.u64.wrap ((Go.bits .and .u64 (a0 / 2) 6148914691236517205) + (Go.bits .and .u64 a0 6148914691236517205))) 3689348814741910323))) / 16) + (IntKind.u64.wrap ((Go.bits .and .u64 ((IntKind.u64.wrap ((Go.bits .and .u64 (a0 / 2) 6148914691236517205) + (Go.bits .and .u64 a0 6148914691236517205))) / 4) 3689348814741910323) + (Go.bits .and .u64 (IntKind.u64.wrap ((Go.bits .and .u64 (a0 / 2) 6148914691236517205) + (Go.bits .and .u64 a0 6148914691236517205))) 3689348814741910323))))) 1085102592571150095) + ((Go.bits .and .u64 (IntKind.u64.wrap (((IntKind.u64.wrap ((Go.bits .and .u64 ((IntKind.u64.wrap ((Go.bits .and .u64 (a0 / 2) 6148914691236517205) + (Go.bits .and .u64 a0 6148914691236517205))) / 4) 3689348814741910323) + (Go.bits .and .u64 (IntKind.u64.wrap ((Go.bits .and .u64 (a0 / 2) 6148914691236517205) + (Go.bits .and .u64 a0 6148914691236517205))) 3689348814741910323))) / 16) + (IntKind.u64.wrap ((Go.bits .and .u64 ((IntKind.u64.wrap ((Go.bits .and .u64 (a0 / 2) 6148914691236517205) + (Go.bits .and .u64 a0 6148914691236517205))) / 4) 3689348814741910323) + (Go.bits .and .u64 (IntKind.u64.wrap ((Go.bits .and .u64 (a0 / 2) 6148914691236517205) + (Go.bits .and .u64 a0 6148914691236517205))) 3689348814741910323))))) 1085102592571150095) / 256))) / 65536))) + ((IntKind.u64.wrap ((IntKind.u64.wrap ((Go.bits .and .u64 (IntKind.u64.wrap (((IntKind.u64.wrap ((Go.bits .and .u64 ((IntKind.u64.wrap ((Go.bits .and .u64 (a0 / 2) 6148914691236517205) + (Go.bits .and .u64 a0 6148914691236517205))) / 4) 3689348814741910323) + (Go.bits .and .u64 (IntKind.u64.wrap ((Go.bits .and .u64 (a0 / 2) 6148914691236517205) + (Go.bits .and .u64 a0 6148914691236517205))) 3689348814741910323))) / 16) + (IntKind.u64.wrap ((Go.bits .and .u64 ((IntKind.u64.wrap ((Go.bits .and .u64 (a0 / 2) 6148914691236517205) + (Go.bits .and .u64 a0 6148914691236517205))) / 4) 3689348814741910323) + (Go.bits .and .u64 (IntKind.u64.wrap ((Go.bits .and .u64 (a0 / 2) 6148914691236517205) + (Go.bits .and .u64 a0 6148914691236517205))) 3689348814741910323))))) 1085102592571150095) + ((Go.bits .and .u64 (IntKind.u64.wrap (((IntKind.u64.wrap ((Go.bits .and .u64 ((IntKind.u64.wrap ((Go.bits .and .u64 (a0 / 2) 6148914691236517205) + (Go.bits .and .u64 a0 6148914691236517205))) / 4) 3689348814741910323) + (Go.bits .and .u64 (IntKind.u64.wrap ((Go.bits .and .u64 (a0 / 2) 6148914691236517205) + (Go.bits .and .u64 a0 6148914691236517205))) 3689348814741910323))) / 16) + (IntKind.u64.wrap ((Go.bits .and .u64 ((IntKind.u64.wrap ((Go.bits .and .u64 (a0 / 2) 6148914691236517205) + (Go.bits .and .u64 a0 6148914691236517205))) / 4) 3689348814741910323) + (Go.bits .and .u64 (IntKind.u64.wrap ((Go.bits .and .u64 (a0 / 2) 6148914691236517205) + (Go.bits .and .u64 a0 6148914691236517205))) 3689348814741910323))))) 1085102592571150095) / 256))) + ((IntKind.u64.wrap ((Go.bits .and .u64 (IntKind.u64.wrap (((IntKind.u64.wrap ((Go.bits .and .u64 ((IntKind.u64.wrap ((Go.bits .and .u64 (a0 / 2) 6148914691236517205) + (Go.bits .and .u64 a0 6148914691236517205))) / 4) 3689348814741910323) + (Go.bits .and .u64 (IntKind.u64.wrap ((Go.bits .and .u64 (a0 / 2) 6148914691236517205) + (Go.bits .and .u64 a0 6148914691236517205))) 3689348814741910323))) / 16) + (IntKind.u64.wrap ((Go.bits .and .u64 ((IntKind.u64.wrap ((Go.bits .and .u64 (a0 / 2) 6148914691236517205) + (Go.bits .and .u64 a0 6148914691236517205))) / 4) 3689348814741910323) + (Go.bits .and .u64 (IntKind.u64.wrap ((Go.bits .and .u64 (a0 / 2) 6148914691236517205) + (Go.bits .and .u64 a0 6148914691236517205))) 3689348814741910323))))) 1085102592571150095) + ((Go.bits .and .u64 (IntKind.u64.wrap (((IntKind.u64.wrap ((Go.bits .and .u64 ((IntKind.u64.wrap ((Go.bits .and .u64 (a0 / 2) 6148914691236517205) + (Go.bits .and .u64 a0 6148914691236517205))) / 4) 3689348814741910323) + (Go.bits .and .u64 (IntKind.u64.wrap ((Go.bits .and .u64 (a0 / 2) 6148914691236517205) + (Go.bits .and .u64 a0 6148914691236517205))) 3689348814741910323))) / 16) + (IntKind.u64.wrap ((Go.bits .and .u64 ((IntKind.u64.wrap ((Go.bits .and .u64 (a0 / 2) 6148914691236517205) + (Go.bits .and .u64 a0 6148914691236517205))) / 4) 3689348814741910323) + (Go.bits .and .u64 (IntKind.u64.wrap ((Go.bits .and .u64 (a0 / 2) 6148914691236517205) + (Go.bits .and .u64 a0 6148914691236517205))) 3689348814741910323))))) 1085102592571150095) / 256))) / 65536))) / 4294967296)))) 127)) = some r := h
  clear h
  obtain rfl := Option.some.inj H
  go_enter Try.func31, Try.ntmps31
  go_wp2
  go_ret
  exact ⟨by first | rfl | (simp; done) | (simp [*]; done), by repeat (first | exact Drawn0.refl _ | apply Drawn0.step)⟩

/-! ### proof_decompInclProof: function 27 -/
def proof_decompInclProof.f (a0 : Int) (a1 : Int) : Option (Int × Int) := (proof_innerProofSize.f a0 a1).bind fun t140 => (if 0 ≤ (IntKind.u64.wrap (t140)) then ((bits_OnesCount64.f (shr .u64 a0 (IntKind.u64.wrap (t140)))).bind fun t141 => (some (t140, t141))) else (none))
set_option maxHeartbeats 8000000 in
set_option maxRecDepth 100000 in
theorem proof_decompInclProof.calls (a0 : Int) (a1 : Int) (r1 : Int) (r2 : Int) (w : World) (h : proof_decompInclProof.f a0 a1 = some (r1, r2)) :
    Calls Try.prog 27 #[.int .u64 a0, .int .u64 a1] w fun e w' => e = .returned (.tuple #[.int .i64 r1, .int .i64 r2]) ∧ Drawn0 w w' := by
  have H : ((proof_innerProofSize.f a0 a1).bind fun t140 => (if 0 ≤ (IntKind.u64.wrap (t140)) then ((bits_OnesCount64.f (shr .u64 a0 (IntKind.u64.wrap (t140)))).bind fun t141 => (some (t140, t141))) else (none))) = some (r1, r2) := h
  clear h
  replace H := Option.bind_eq_some_iff.mp H
  obtain ⟨t140, A30, H⟩ := H
  replace H : (if 0 ≤ (IntKind.u64.wrap (t140)) then ((bits_OnesCount64.f (shr .u64 a0 (IntKind.u64.wrap (t140)))).bind fun t141 => (some (t140, t141))) else (none)) = some (r1, r2) := H
  have A3 := Aside0.mk A30
  clear A30
  obtain ⟨ji4, hji4⟩ : ∃ j_ : Int, (IntKind.u64.wrap (t140)) = j_ := ⟨_, rfl⟩
  replace H : (if 0 ≤ (ji4) then ((bits_OnesCount64.f (shr .u64 a0 (ji4))).bind fun t141 => (some (t140, t141))) else (none)) = some (r1, r2) := by first | (rw [hji4] at H; exact H) | (simp only [hji4] at H ⊢; exact H)
  (try rw [hji4] at A3)
  by_cases c5 : 0 ≤ (ji4)
  · rw [if_pos c5] at H
    have c5b0 := eq_true c5
    have c5b1 : decide (0 ≤ (ji4)) = true := decide_eq_true c5
    clear c5
    obtain ⟨ji6, hji6⟩ : ∃ j_ : Int, (shr .u64 a0 (ji4)) = j_ := ⟨_, rfl⟩
    replace H : ((bits_OnesCount64.f (ji6)).bind fun t141 => (some (t140, t141))) = some (r1, r2) := by first | (rw [hji6] at H; exact H) | (simp only [hji6] at H ⊢; exact H)
    (try rw [hji6] at A3)
    have hji6_ : (a0 / 2 ^ min (ji4).toNat 64) = ji6 := hji6
    have hji6z : (ji4) ≤ 64 → (a0 / 2 ^ (ji4).toNat) = ji6 := shr_small hji6
    replace H := Option.bind_eq_some_iff.mp H
    obtain ⟨t141, A70, H⟩ := H
    replace H : (some (t140, t141)) = some (r1, r2) := H
    have A7 := Aside0.mk A70
    clear A70
    simp only [Option.some.injEq, Prod.mk.injEq] at H
    obtain ⟨rfl, rfl⟩ := H
    go_enter Try.func27, Try.ntmps27
    go_wp2_with (first | ((with_reducible refine gate_callee (f := 30) rfl ?_); refine goesL_ (some 10) rfl rfl Try.func30 (by kernel_rfl) rfl #[.int .u64 a0, .int .u64 a1] rfl (by (try simp only [List.map_toArray, List.map_cons, List.map_nil]); first | done | rfl | (simp only [List.length_drop, List.length_take]; rfl)) ?_; (with_reducible refine (proof_innerProofSize.calls a0 a1 t140 _ A3.out).mono ?_); rintro e w' ⟨rfl, ⟨nd, rfl⟩⟩; refine ⟨_, rfl, ?_⟩) | ((with_reducible refine gate_callee (f := 31) rfl ?_); refine goesL_ (some 15) rfl rfl Try.func31 (by kernel_rfl) rfl #[.int .u64 ji6] rfl (by (try simp only [List.map_toArray, List.map_cons, List.map_nil]); first | done | (simp only [hji6]; rfl) | rfl | (simp only [List.length_drop, List.length_take]; rfl)) ?_; (with_reducible refine (bits_OnesCount64.calls ji6 t141 _ A7.out).mono ?_); rintro e w' ⟨rfl, ⟨nd, rfl⟩⟩; refine ⟨_, rfl, ?_⟩))
    go_ret2
    exact ⟨by first | rfl | (simp; done) | (simp only [← hji4, ← hji6] <;> (first | rfl | simp)) | (simp [*]; done), by repeat (first | exact Drawn0.refl _ | apply Drawn0.step)⟩
  · rw [if_neg c5] at H
    exact absurd H (by simp)

/-! ### proof_DoorSizes: function 22 -/
def proof_DoorSizes.f (a0 : Int) (a1 : Int) : Option (Int × Int) := (proof_decompInclProof.f a0 a1).bind fun bt142 => (some (bt142.1, bt142.2))
set_option maxHeartbeats 8000000 in
set_option maxRecDepth 100000 in
theorem proof_DoorSizes.calls (a0 : Int) (a1 : Int) (r1 : Int) (r2 : Int) (w : World) (h : proof_DoorSizes.f a0 a1 = some (r1, r2)) :
    Calls Try.prog 22 #[.int .u64 a0, .int .u64 a1] w fun e w' => e = .returned (.tuple #[.int .i64 r1, .int .i64 r2]) ∧ Drawn0 w w' := by
  have H : ((proof_decompInclProof.f a0 a1).bind fun bt142 => (some (bt142.1, bt142.2))) = some (r1, r2) := h
  clear h
  replace H := Option.bind_eq_some_iff.mp H
  obtain ⟨⟨t142, t143⟩, A30, H⟩ := H
  replace H : (some (t142, t143)) = some (r1, r2) := H
  have A3 := Aside0.mk A30
  clear A30
  simp only [Option.some.injEq, Prod.mk.injEq] at H
  obtain ⟨rfl, rfl⟩ := H
  go_enter Try.func22, Try.ntmps22
  go_wp2_with (first | ((with_reducible refine gate_callee (f := 27) rfl ?_); refine goesL_ (some 8) rfl rfl Try.func27 (by kernel_rfl) rfl #[.int .u64 a0, .int .u64 a1] rfl (by (try simp only [List.map_toArray, List.map_cons, List.map_nil]); first | done | rfl | (simp only [List.length_drop, List.length_take]; rfl)) ?_; (with_reducible refine (proof_decompInclProof.calls a0 a1 t142 t143 _ A3.out).mono ?_); rintro e w' ⟨rfl, ⟨nd, rfl⟩⟩; refine ⟨_, rfl, ?_⟩))
  go_ret2
  exact ⟨by first | rfl | (simp; done) | (simp [*]; done), by repeat (first | exact Drawn0.refl _ | apply Drawn0.step)⟩

/-! ### impl_ProofSizes: function 13 -/
def impl_ProofSizes.f (a0 : Int) (a1 : Int) : Option (Int × Int) := if a0 ≥ a1 then (some (0, 0)) else ((proof_DoorSizes.f a0 a1).bind fun bt144 => (some (bt144.1, bt144.2)))
set_option maxHeartbeats 8000000 in
set_option maxRecDepth 100000 in
theorem impl_ProofSizes.calls (a0 : Int) (a1 : Int) (r1 : Int) (r2 : Int) (w : World) (h : impl_ProofSizes.f a0 a1 = some (r1, r2)) :
    Calls Try.prog 13 #[.int .u64 a0, .int .u64 a1] w fun e w' => e = .returned (.tuple #[.int .i64 r1, .int .i64 r2]) ∧ Drawn0 w w' := by
  have H : (if a0 ≥ a1 then (some (0, 0)) else ((proof_DoorSizes.f a0 a1).bind fun bt144 => (some (bt144.1, bt144.2)))) = some (r1, r2) := h
  clear h
  by_cases c3 : a0 ≥ a1
  · rw [if_pos c3] at H
    have c3b0 : decide (a1 ≤ a0) = true := decide_eq_true c3
    clear c3
    simp only [Option.some.injEq, Prod.mk.injEq] at H
    obtain ⟨rfl, rfl⟩ := H
    go_enter Try.func13, Try.ntmps13
    go_wp2
    go_ret2
    exact ⟨by first | rfl | (simp; done) | (simp [*]; done), by repeat (first | exact Drawn0.refl _ | apply Drawn0.step)⟩
  · rw [if_neg c3] at H
    have c3b0 : decide (a1 ≤ a0) = false := decide_eq_false c3
    clear c3
    replace H := Option.bind_eq_some_iff.mp H
    obtain ⟨⟨t144, t145⟩, A40, H⟩ := H
    replace H : (some (t144, t145)) = some (r1, r2) := H
    have A4 := Aside0.mk A40
    clear A40
    simp only [Option.some.injEq, Prod.mk.injEq] at H
    obtain ⟨rfl, rfl⟩ := H
    go_enter Try.func13, Try.ntmps13
    go_wp2_with (first | ((with_reducible refine gate_callee (f := 22) rfl ?_); refine goesL_ (some 11) rfl rfl Try.func22 (by kernel_rfl) rfl #[.int .u64 a0, .int .u64 a1] rfl (by (try simp only [List.map_toArray, List.map_cons, List.map_nil]); first | done | rfl | (simp only [List.length_drop, List.length_take]; rfl)) ?_; (with_reducible refine (proof_DoorSizes.calls a0 a1 t144 t145 _ A4.out).mono ?_); rintro e w' ⟨rfl, ⟨nd, rfl⟩⟩; refine ⟨_, rfl, ?_⟩))
    go_ret2
    exact ⟨by first | rfl | (simp; done) | (simp [*]; done), by repeat (first | exact Drawn0.refl _ | apply Drawn0.step)⟩

/-! ### spec_Inner: function 14 -/
def spec_Inner.l0 : Nat → Int → Int → Int → Option (Int)
  | 0, _, _, _ => none
  | k + 1, x0, x1, x5 => if 0 ≤ x5 then (if (shr .u64 x0 x5) = (shr .u64 (IntKind.u64.wrap (x1 - 1)) x5) then (some x5) else (spec_Inner.l0 k x0 x1 (wrap64 (x5 + 1)))) else (none)
def spec_Inner.f (k : Nat) (a0 : Int) (a1 : Int) : Option (Int) := spec_Inner.l0 k a0 a1 0
theorem spec_Inner.mono_l : ∀ k, (∀ y0 y1 y2, LeO (spec_Inner.l0 k y0 y1 y2) (spec_Inner.l0 (k + 1) y0 y1 y2))
  | 0 => fun _ _ _ r h => by simp [spec_Inner.l0] at h
  | k + 1 => by
    have ih0 := spec_Inner.mono_l k
    · intro y0 y1 y2
      unfold spec_Inner.l0
      repeat' first
      | (with_reducible exact ih0 _ _ _)
      | (with_reducible exact LeO.refl _)
      | (with_reducible exact LeO.none _)
      | (with_reducible refine LeO.ite ?_ ?_)
      | (with_reducible refine LeO.bind ?_ (fun _ => ?_))
      | exact ih0 _ _ _
      | exact LeO.none _
      | refine LeO.ite ?_ ?_
      | refine LeO.bind ?_ (fun _ => ?_)
theorem spec_Inner.mono : ∀ a0 a1 k, LeO (spec_Inner.f k a0 a1) (spec_Inner.f (k + 1) a0 a1) := by
  intro a0 a1 k
  have ih0 := spec_Inner.mono_l k
  unfold spec_Inner.f
  repeat' first
      | (with_reducible exact ih0 _ _ _)
      | (with_reducible exact LeO.refl _)
      | (with_reducible exact LeO.none _)
      | (with_reducible refine LeO.ite ?_ ?_)
      | (with_reducible refine LeO.bind ?_ (fun _ => ?_))
      | exact ih0 _ _ _
      | exact LeO.none _
      | refine LeO.ite ?_ ?_
      | refine LeO.bind ?_ (fun _ => ?_)
set_option maxHeartbeats 8000000 in
set_option maxRecDepth 100000 in
theorem spec_Inner.calls (k : Nat) (a0 : Int) (a1 : Int) (r : Int) (w : World) (h : spec_Inner.f k a0 a1 = some r) :
    Calls Try.prog 14 #[.int .u64 a0, .int .u64 a1] w fun e w' => e = .returned (.int .i64 r) ∧ Drawn0 w w' := by
  have H : (spec_Inner.l0 k a0 a1 0) = some r := h
  clear h
  have H' := Aside0.mk H
  clear H
  go_enter Try.func14, Try.ntmps14
  go_wp2
  repeat (go_quiet (fail); try go_wp2)
  go_loopg [5] k (fun kq v5 w' => ∃ (x5_1 : Int), v5 = .int .i64 x5_1 ∧ Aside0 (spec_Inner.l0 kq a0 a1 x5_1 = some r) ∧ Aside0 (kq ≤ k) ∧ Drawn0 w w')
  case atStart => exact ⟨(0), (by first | rfl | (simp; done) | (simp [*]; done)), H', ⟨Nat.le_refl _⟩, by repeat (first | exact Drawn0.refl _ | apply Drawn0.step)⟩
  case round =>
    clear H'
    try clear c1
    try clear p2
    obtain ⟨x5_1, rfl, HA, HK1, ⟨m1, rfl⟩⟩ := hrel
    cases gk with
    | zero => exact absurd HA.out (by simp [spec_Inner.l0])
    | succ k1 =>
      have H := HA.out
      clear HA
      simp only [spec_Inner.l0] at H
      by_cases c3 : 0 ≤ x5_1
      · rw [if_pos c3] at H
        have c3b0 := eq_true c3
        have c3b1 : decide (0 ≤ x5_1) = true := decide_eq_true c3
        clear c3
        obtain ⟨ji4, hji4⟩ : ∃ j_ : Int, (shr .u64 a0 x5_1) = j_ := ⟨_, rfl⟩
        replace H : (if (ji4) = (shr .u64 (IntKind.u64.wrap (a1 - 1)) x5_1) then (some x5_1) else (spec_Inner.l0 k1 a0 a1 (wrap64 (x5_1 + 1)))) = some r := by first | (rw [hji4] at H; exact H) | (simp only [hji4] at H ⊢; exact H)
        have hji4_ : (a0 / 2 ^ min x5_1.toNat 64) = ji4 := hji4
        have hji4z : x5_1 ≤ 64 → (a0 / 2 ^ x5_1.toNat) = ji4 := shr_small hji4
        have c5b0 := eq_true (of_decide_eq_true (by first | (with_reducible assumption) | assumption) : 0 ≤ x5_1)
        obtain ⟨ji6, hji6⟩ : ∃ j_ : Int, (shr .u64 (IntKind.u64.wrap (a1 - 1)) x5_1) = j_ := ⟨_, rfl⟩
        replace H : (if (ji4) = (ji6) then (some x5_1) else (spec_Inner.l0 k1 a0 a1 (wrap64 (x5_1 + 1)))) = some r := by first | (rw [hji6] at H; exact H) | (simp only [hji6] at H ⊢; exact H)
        have hji6_ : ((IntKind.u64.wrap (a1 - 1)) / 2 ^ min x5_1.toNat 64) = ji6 := hji6
        have hji6z : x5_1 ≤ 64 → ((IntKind.u64.wrap (a1 - 1)) / 2 ^ x5_1.toNat) = ji6 := shr_small hji6
        by_cases c7 : (ji4) = (ji6)
        · rw [if_pos c7] at H
          have c7b0 : ((ji4) == (ji6)) = true := beq_iff_eq.mpr c7
          have c7b1 : ((ji4) != (ji6)) = false := bne_eq_false_iff_eq.mpr c7
          clear c7
          obtain rfl := Option.some.inj H
          go_wp2
          repeat (go_quiet (fail); try go_wp2)
          go_ret
          exact ⟨by first | rfl | (simp; done) | (simp only [← hji4, ← hji6] <;> (first | rfl | simp)) | (simp [*]; done), by repeat (first | exact Drawn0.refl _ | apply Drawn0.step)⟩
        · rw [if_neg c7] at H
          have c7b0 : ((ji4) == (ji6)) = false := beq_eq_false_iff_ne.mpr c7
          have c7b1 : ((ji4) != (ji6)) = true := bne_iff_ne.mpr c7
          have H' := Aside0.mk H
          clear H
          go_wp2
          repeat (go_quiet (fail); try go_wp2)
          go_roundg k1
          case measure => have := HK1.out; omega
          case rel => exact ⟨(wrap64 (x5_1 + 1)), (by first | rfl | (simp; done) | (simp [*]; done)), H', ⟨by have := HK1.out; omega⟩, by repeat (first | exact Drawn0.refl _ | apply Drawn0.step)⟩
      · rw [if_neg c3] at H
        exact absurd H (by simp)

/-! ### spec_split: function 28 -/
def spec_split.l0 : Nat → Int → Int → Option (Int)
  | 0, _, _ => none
  | k + 1, x0, x3 => if x3 < (IntKind.u64.wrap (x0 - x3)) then (spec_split.l0 k x0 (IntKind.u64.wrap (x3 * 2))) else (some x3)
def spec_split.f (k : Nat) (a0 : Int) : Option (Int) := spec_split.l0 k a0 1
theorem spec_split.mono_l : ∀ k, (∀ y0 y1, LeO (spec_split.l0 k y0 y1) (spec_split.l0 (k + 1) y0 y1))
  | 0 => fun _ _ r h => by simp [spec_split.l0] at h
  | k + 1 => by
    have ih0 := spec_split.mono_l k
    · intro y0 y1
      unfold spec_split.l0
      repeat' first
      | (with_reducible exact ih0 _ _)
      | (with_reducible exact LeO.refl _)
      | (with_reducible exact LeO.none _)
      | (with_reducible refine LeO.ite ?_ ?_)
      | (with_reducible refine LeO.bind ?_ (fun _ => ?_))
      | exact ih0 _ _
      | exact LeO.none _
      | refine LeO.ite ?_ ?_
      | refine LeO.bind ?_ (fun _ => ?_)
theorem spec_split.mono : ∀ a0 k, LeO (spec_split.f k a0) (spec_split.f (k + 1) a0) := by
  intro a0 k
  have ih0 := spec_split.mono_l k
  unfold spec_split.f
  repeat' first
      | (with_reducible exact ih0 _ _)
      | (with_reducible exact LeO.refl _)
      | (with_reducible exact LeO.none _)
      | (with_reducible refine LeO.ite ?_ ?_)
      | (with_reducible refine LeO.bind ?_ (fun _ => ?_))
      | exact ih0 _ _
      | exact LeO.none _
      | refine LeO.ite ?_ ?_
      | refine LeO.bind ?_ (fun _ => ?_)
set_option maxHeartbeats 8000000 in
set_option maxRecDepth 100000 in
theorem spec_split.calls (k : Nat) (a0 : Int) (r : Int) (w : World) (h : spec_split.f k a0 = some r) :
    Calls Try.prog 28 #[.int .u64 a0] w fun e w' => e = .returned (.int .u64 r) ∧ Drawn0 w w' := by
  have H : (spec_split.l0 k a0 1) = some r := h
  clear h
  have H' := Aside0.mk H
  clear H
  go_enter Try.func28, Try.ntmps28
  go_wp2
  go_loopg [3] k (fun kq v3 w' => ∃ (x3_1 : Int), v3 = .int .u64 x3_1 ∧ Aside0 (spec_split.l0 kq a0 x3_1 = some r) ∧ Aside0 (kq ≤ k) ∧ Drawn0 w w')
  case atStart => exact ⟨(1), (by first | rfl | (simp; done) | (simp [*]; done)), H', ⟨Nat.le_refl _⟩, by repeat (first | exact Drawn0.refl _ | apply Drawn0.step)⟩
  case round =>
    clear H'
    obtain ⟨x3_1, rfl, HA, HK1, ⟨m1, rfl⟩⟩ := hrel
    cases gk with
    | zero => exact absurd HA.out (by simp [spec_split.l0])
    | succ k1 =>
      have H := HA.out
      clear HA
      simp only [spec_split.l0] at H
      by_cases c2 : x3_1 < (IntKind.u64.wrap (a0 - x3_1))
      · rw [if_pos c2] at H
        have c2b0 : decide (x3_1 < (IntKind.u64.wrap (a0 - x3_1))) = true := decide_eq_true c2
        clear c2
        have H' := Aside0.mk H
        clear H
        go_wp2
        go_roundg k1
        case measure => have := HK1.out; omega
        case rel => exact ⟨(IntKind.u64.wrap (x3_1 * 2)), (by first | rfl | (simp; done) | (simp [*]; done)), H', ⟨by have := HK1.out; omega⟩, by repeat (first | exact Drawn0.refl _ | apply Drawn0.step)⟩
      · rw [if_neg c2] at H
        have c2b0 : decide (x3_1 < (IntKind.u64.wrap (a0 - x3_1))) = false := decide_eq_false c2
        clear c2
        obtain rfl := Option.some.inj H
        go_wp2
        go_ret
        exact ⟨by first | rfl | (simp; done) | (simp [*]; done), by repeat (first | exact Drawn0.refl _ | apply Drawn0.step)⟩

end Go.Proofs.Ytpeikjnkbjabpaa.X
