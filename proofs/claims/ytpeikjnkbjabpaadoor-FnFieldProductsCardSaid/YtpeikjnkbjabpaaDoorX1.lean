-- laid by xprint.py (a program of this session over the kit's print); Lean checks it
import Derived.Test.YtpeikjnkbjabpaaDoorX0
namespace Go.Proofs.YtpeikjnkbjabpaaDoor.X
open Go.RowKit Go.Proofs.YtpeikjnkbjabpaaDoorW.PrintWords Go.Proofs.YtpeikjnkbjabpaaDoorW.PrintLast Go.Proofs.YtpeikjnkbjabpaaDoorW.PrintMore
attribute [local go_sem] max2_int min2_int max_two min_two max_three min_three max_four min_four   -- for this text's walks alone
set_option linter.unusedVariables false
set_option linter.unusedSimpArgs false

/-! ### reedsolomon_galMultiply: function 43 (given) -/
def reedsolomon_galMultiply.f (a0 a1 : Int) : Option (Int) := if 0 ≤ a0 then (if a0 < 256 then (if 0 ≤ a1 then (if a1 < 256 then (some ((gmul a0.toNat a1.toNat : Nat) : Int)) else (none)) else (none)) else (none)) else (none)
set_option maxHeartbeats 1000000 in
set_option maxRecDepth 100000 in
theorem reedsolomon_galMultiply.core (x y z s : Nat) (w : World) (hx : x < 256) (hy : y < 256) (hx0 : ((x : Int) == 0) = false) (hy0 : ((y : Int) == 0) = false) (lx ly : Nat) (hlx : lx < 255) (hly : ly < 255)
    (c1 : w.cell? ⟨0, x, none⟩ = some (.int .u8 (lx : Int))) (c2 : w.cell? ⟨0, y, none⟩ = some (.int .u8 (ly : Int)))
    (hs : s = if 255 ≤ lx + ly then lx + ly - 255 else lx + ly) (c3 : w.cell? ⟨1, s, none⟩ = some (.int .u8 (z : Int))) :
    Calls Tryd.prog 43 #[.int .u8 (x : Int), .int .u8 (y : Int)] w fun e w' => e = .returned (.int .u8 (z : Int)) ∧ Drawn0 w w' := by
  have i1 : (x : Int) < 256 := by omega
  have i2 : (y : Int) < 256 := by omega
  have i3 : (lx : Int) < 255 := by omega
  have i4 : (ly : Int) < 255 := by omega
  by_cases h : 255 ≤ lx + ly
  · rw [if_pos h] at hs
    obtain ⟨v, hv⟩ : ∃ v : Nat, lx + ly = v + 255 := ⟨lx + ly - 255, by omega⟩
    obtain rfl : s = v := by omega
    have k1 : decide (255 ≤ (lx : Int) + (ly : Int)) = true := decide_eq_true (by omega)
    have k2 : IntKind.u8.wrap ((lx : Int) + (ly : Int) - 255) = (s : Int) := by rw [IntKind.wrap_u8]; omega
    have k3 : (lx : Int) + (ly : Int) - 255 = (s : Int) := by omega
    have hsx : (s : Int) < 256 := by omega
    clear hs hv h
    go_enter Tryd.func43, Tryd.ntmps43
    go_wp2
    go_quiet (fail)
    go_wp2
    go_ret
    exact ⟨by first | rfl | (simp; done), by repeat (first | exact Drawn0.refl _ | apply Drawn0.step)⟩
  · rw [if_neg h] at hs
    have k1 : decide (255 ≤ (lx : Int) + (ly : Int)) = false := decide_eq_false (by omega)
    have k3 : (lx : Int) + (ly : Int) = (s : Int) := by omega
    have hsx : (s : Int) < 256 := by omega
    have k4 : decide (255 ≤ (s : Int)) = false := decide_eq_false (by omega)
    clear hs h
    go_enter Tryd.func43, Tryd.ntmps43
    go_wp2
    go_quiet (fail)
    go_wp2
    go_ret
    exact ⟨by first | rfl | (simp; done), by repeat (first | exact Drawn0.refl _ | apply Drawn0.step)⟩
theorem reedsolomon_galMultiply.calls (a0 a1 : Int) (r : Int) (w : World) (hGF : GlobF w) (h : reedsolomon_galMultiply.f a0 a1 = some r) :
    Calls Tryd.prog 43 #[.int .u8 a0, .int .u8 a1] w fun e w' => e = .returned (.int .u8 r) ∧ Drawn0 w w' := by
  have hh : 0 ≤ a0 ∧ a0 < 256 ∧ 0 ≤ a1 ∧ a1 < 256 ∧ r = ((gmul a0.toNat a1.toNat : Nat) : Int) := by
    unfold reedsolomon_galMultiply.f at h
    by_cases h0 : 0 ≤ a0
    · by_cases h1 : a0 < 256
      · by_cases h2 : 0 ≤ a1
        · by_cases h3 : a1 < 256
          · rw [if_pos h0, if_pos h1, if_pos h2, if_pos h3] at h
            exact ⟨h0, h1, h2, h3, (Option.some.inj h).symm⟩
          · rw [if_pos h0, if_pos h1, if_pos h2, if_neg h3] at h
            exact absurd h (by simp)
        · rw [if_pos h0, if_pos h1, if_neg h2] at h
          exact absurd h (by simp)
      · rw [if_pos h0, if_neg h1] at h
        exact absurd h (by simp)
    · rw [if_neg h0] at h
      exact absurd h (by simp)
  clear h
  obtain ⟨h0, h1, h2, h3, hr⟩ := hh
  subst hr
  obtain ⟨x, rfl⟩ := Int.eq_ofNat_of_zero_le h0
  obtain ⟨y, rfl⟩ := Int.eq_ofNat_of_zero_le h2
  rw [Int.toNat_natCast, Int.toNat_natCast]
  unfold gmul
  by_cases hx : x = 0
  · subst hx
    rw [if_pos (.inl rfl)]
    clear h0 h1 h2 h3 hGF
    go_enter Tryd.func43, Tryd.ntmps43
    go_wp2
    go_ret
    exact ⟨rfl, Drawn0.refl _⟩
  · by_cases hy : y = 0
    · subst hy
      rw [if_pos (.inr rfl)]
      have e0 : ((x : Int) == 0) = false := by simp; omega
      clear h0 h1 h2 h3 hGF hx
      go_enter Tryd.func43, Tryd.ntmps43
      go_wp2
      go_ret
      exact ⟨rfl, Drawn0.refl _⟩
    · rw [if_neg (by omega)]
      have g1 := glog_lt x
      have g2 := glog_lt y
      refine reedsolomon_galMultiply.core x y _ _ w (by omega) (by omega) (by simp; omega) (by simp; omega) _ _ g1 g2 (hGF.log x (by omega)) (hGF.log y (by omega)) rfl (hGF.exp _ ?_)
      split <;> omega

/-! ### reedsolomon_DoorMultiply: function 30 -/
def reedsolomon_DoorMultiply.f (a0 : Int) (a1 : Int) : Option (Int) := (reedsolomon_galMultiply.f a0 a1).bind fun t101 => (some t101)
set_option maxHeartbeats 8000000 in
set_option maxRecDepth 100000 in
theorem reedsolomon_DoorMultiply.calls (a0 : Int) (a1 : Int) (r : Int) (w : World) (hGF : GlobF w) (h : reedsolomon_DoorMultiply.f a0 a1 = some r) :
    Calls Tryd.prog 30 #[.int .u8 a0, .int .u8 a1] w fun e w' => e = .returned (.int .u8 r) ∧ Drawn0 w w' := by
  have H : ((reedsolomon_galMultiply.f a0 a1).bind fun t101 => (some t101)) = some r := h
  clear h
  replace H := Option.bind_eq_some_iff.mp H
  obtain ⟨t101, A30, H⟩ := H
  replace H : (some t101) = some r := H
  have A3 := Aside0.mk A30
  clear A30
  obtain rfl := Option.some.inj H
  go_enter Tryd.func30, Tryd.ntmps30
  go_wp2_with (first | ((with_reducible refine gate_callee (f := 43) rfl ?_); refine goesL_ (some 7) rfl rfl Tryd.func43 (by kernel_rfl) rfl #[.int .u8 a0, .int .u8 a1] rfl (by (try simp only [List.map_toArray, List.map_cons, List.map_nil]); first | done | rfl | (simp only [List.length_drop, List.length_take]; rfl)) ?_; (with_reducible refine (reedsolomon_galMultiply.calls a0 a1 t101 _ ?side1 A3.out).mono ?_); (case side1 => repeat (first | exact hGF | apply GlobF.drewN | apply GlobF.drew)); rintro e w' ⟨rfl, ⟨nd, rfl⟩⟩; refine ⟨_, rfl, ?_⟩))
  go_ret
  exact ⟨by first | rfl | (simp; done) | (simp [*]; done), by repeat (first | exact Drawn0.refl _ | apply Drawn0.step)⟩

/-! ### impl_Mul: function 9 -/
def impl_Mul.f (a0 : Int) (a1 : Int) : Option (Int) := (reedsolomon_DoorMultiply.f a0 a1).bind fun t102 => (some t102)
set_option maxHeartbeats 8000000 in
set_option maxRecDepth 100000 in
theorem impl_Mul.calls (a0 : Int) (a1 : Int) (r : Int) (w : World) (hGF : GlobF w) (h : impl_Mul.f a0 a1 = some r) :
    Calls Tryd.prog 9 #[.int .u8 a0, .int .u8 a1] w fun e w' => e = .returned (.int .u8 r) ∧ Drawn0 w w' := by
  have H : ((reedsolomon_DoorMultiply.f a0 a1).bind fun t102 => (some t102)) = some r := h
  clear h
  replace H := Option.bind_eq_some_iff.mp H
  obtain ⟨t102, A30, H⟩ := H
  replace H : (some t102) = some r := H
  have A3 := Aside0.mk A30
  clear A30
  obtain rfl := Option.some.inj H
  go_enter Tryd.func9, Tryd.ntmps9
  go_wp2_with (first | ((with_reducible refine gate_callee (f := 30) rfl ?_); refine goesL_ (some 7) rfl rfl Tryd.func30 (by kernel_rfl) rfl #[.int .u8 a0, .int .u8 a1] rfl (by (try simp only [List.map_toArray, List.map_cons, List.map_nil]); first | done | rfl | (simp only [List.length_drop, List.length_take]; rfl)) ?_; (with_reducible refine (reedsolomon_DoorMultiply.calls a0 a1 t102 _ ?side1 A3.out).mono ?_); (case side1 => repeat (first | exact hGF | apply GlobF.drewN | apply GlobF.drew)); rintro e w' ⟨rfl, ⟨nd, rfl⟩⟩; refine ⟨_, rfl, ?_⟩))
  go_ret
  exact ⟨by first | rfl | (simp; done) | (simp [*]; done), by repeat (first | exact Drawn0.refl _ | apply Drawn0.step)⟩

/-! ### reedsolomon_galAdd: function 44 -/
def reedsolomon_galAdd.f (a0 : Int) (a1 : Int) : Option (Int) := some (Go.bits .xor .u8 a0 a1)
set_option maxHeartbeats 8000000 in
set_option maxRecDepth 100000 in
theorem reedsolomon_galAdd.calls (a0 : Int) (a1 : Int) (r : Int) (w : World) (h : reedsolomon_galAdd.f a0 a1 = some r) :
    Calls Tryd.prog 44 #[.int .u8 a0, .int .u8 a1] w fun e w' => e = .returned (.int .u8 r) ∧ Drawn0 w w' := by
  have H : (some (Go.bits .xor .u8 a0 a1)) = some r := h
  clear h
  obtain rfl := Option.some.inj H
  go_enter Tryd.func44, Tryd.ntmps44
  go_wp2
  go_ret
  exact ⟨by first | rfl | (simp; done) | (simp [*]; done), by repeat (first | exact Drawn0.refl _ | apply Drawn0.step)⟩

/-! ### reedsolomon_DoorAdd: function 31 -/
def reedsolomon_DoorAdd.f (a0 : Int) (a1 : Int) : Option (Int) := (reedsolomon_galAdd.f a0 a1).bind fun t103 => (some t103)
set_option maxHeartbeats 8000000 in
set_option maxRecDepth 100000 in
theorem reedsolomon_DoorAdd.calls (a0 : Int) (a1 : Int) (r : Int) (w : World) (h : reedsolomon_DoorAdd.f a0 a1 = some r) :
    Calls Tryd.prog 31 #[.int .u8 a0, .int .u8 a1] w fun e w' => e = .returned (.int .u8 r) ∧ Drawn0 w w' := by
  have H : ((reedsolomon_galAdd.f a0 a1).bind fun t103 => (some t103)) = some r := h
  clear h
  replace H := Option.bind_eq_some_iff.mp H
  obtain ⟨t103, A30, H⟩ := H
  replace H : (some t103) = some r := H
  have A3 := Aside0.mk A30
  clear A30
  obtain rfl := Option.some.inj H
  go_enter Tryd.func31, Tryd.ntmps31
  go_wp2_with (first | ((with_reducible refine gate_callee (f := 44) rfl ?_); refine goesL_ (some 7) rfl rfl Tryd.func44 (by kernel_rfl) rfl #[.int .u8 a0, .int .u8 a1] rfl (by (try simp only [List.map_toArray, List.map_cons, List.map_nil]); first | done | rfl | (simp only [List.length_drop, List.length_take]; rfl)) ?_; (with_reducible refine (reedsolomon_galAdd.calls a0 a1 t103 _ A3.out).mono ?_); rintro e w' ⟨rfl, ⟨nd, rfl⟩⟩; refine ⟨_, rfl, ?_⟩))
  go_ret
  exact ⟨by first | rfl | (simp; done) | (simp [*]; done), by repeat (first | exact Drawn0.refl _ | apply Drawn0.step)⟩

/-! ### impl_Add: function 10 -/
def impl_Add.f (a0 : Int) (a1 : Int) : Option (Int) := (reedsolomon_DoorAdd.f a0 a1).bind fun t104 => (some t104)
set_option maxHeartbeats 8000000 in
set_option maxRecDepth 100000 in
theorem impl_Add.calls (a0 : Int) (a1 : Int) (r : Int) (w : World) (h : impl_Add.f a0 a1 = some r) :
    Calls Tryd.prog 10 #[.int .u8 a0, .int .u8 a1] w fun e w' => e = .returned (.int .u8 r) ∧ Drawn0 w w' := by
  have H : ((reedsolomon_DoorAdd.f a0 a1).bind fun t104 => (some t104)) = some r := h
  clear h
  replace H := Option.bind_eq_some_iff.mp H
  obtain ⟨t104, A30, H⟩ := H
  replace H : (some t104) = some r := H
  have A3 := Aside0.mk A30
  clear A30
  obtain rfl := Option.some.inj H
  go_enter Tryd.func10, Tryd.ntmps10
  go_wp2_with (first | ((with_reducible refine gate_callee (f := 31) rfl ?_); refine goesL_ (some 7) rfl rfl Tryd.func31 (by kernel_rfl) rfl #[.int .u8 a0, .int .u8 a1] rfl (by (try simp only [List.map_toArray, List.map_cons, List.map_nil]); first | done | rfl | (simp only [List.length_drop, List.length_take]; rfl)) ?_; (with_reducible refine (reedsolomon_DoorAdd.calls a0 a1 t104 _ A3.out).mono ?_); rintro e w' ⟨rfl, ⟨nd, rfl⟩⟩; refine ⟨_, rfl, ?_⟩))
  go_ret
  exact ⟨by first | rfl | (simp; done) | (simp [*]; done), by repeat (first | exact Drawn0.refl _ | apply Drawn0.step)⟩

/-! ### laws_FnFieldProducts: function 3 -/
mutual
def laws_FnFieldProducts.l0 : Nat → Int → Int → Bool → Int → List Int → Int → Int → Option (Bool)
  | 0, _, _, _, _, _, _, _ => none
  | k + 1, x1, x5, x6, x7, x17, x18, x19 => if x19 < x18 then (if 0 ≤ x19 then (if x19 < (x17.length : Int) then ((impl_Add.f x1 (rd x17 x19)).bind fun t106 => ((impl_Mul.f x5 t106).bind fun t107 => (if x6 = true then (laws_FnFieldProducts.l0 k x1 t107 true x7 x17 x18 (wrap64 (x19 + 1))) else (laws_FnFieldProducts.l0 k x1 t107 ((rd x17 x19) == x1) x7 x17 x18 (wrap64 (x19 + 1)))))) else (none)) else (none)) else (laws_FnFieldProducts.l1 k x5 x6 x7 1)
def laws_FnFieldProducts.l1 : Nat → Int → Bool → Int → Int → Option (Bool)
  | 0, _, _, _, _ => none
  | k + 1, x5, x6, x7, x10 => if x10 < 256 then ((impl_Mul.f x7 ((x10) % 256)).bind fun t108 => (laws_FnFieldProducts.l1 k x5 x6 t108 (wrap64 (x10 + 1)))) else (if ((x5 == 0) == x6) = true then (some (x7 == 1)) else (some false))
end
def laws_FnFieldProducts.f (k : Nat) (l0 : List Int) (a1 : Int) : Option (Bool) := if (l0.length : Int) > 2147483647 then (some true) else (if (l0.length : Int) > 300 then (some true) else (laws_FnFieldProducts.l0 k a1 1 false 1 l0 (l0.length : Int) 0))
theorem laws_FnFieldProducts.mono_l : ∀ k, (∀ y0 y1 y2 y3 y4 y5 y6, LeO (laws_FnFieldProducts.l0 k y0 y1 y2 y3 y4 y5 y6) (laws_FnFieldProducts.l0 (k + 1) y0 y1 y2 y3 y4 y5 y6)) ∧ (∀ y0 y1 y2 y3, LeO (laws_FnFieldProducts.l1 k y0 y1 y2 y3) (laws_FnFieldProducts.l1 (k + 1) y0 y1 y2 y3))
  | 0 => ⟨fun _ _ _ _ _ _ _ r h => by simp [laws_FnFieldProducts.l0] at h, fun _ _ _ _ r h => by simp [laws_FnFieldProducts.l1] at h⟩
  | k + 1 => by
    obtain ⟨ih0, ih1⟩ := laws_FnFieldProducts.mono_l k
    refine ⟨?_, ?_⟩
    · intro y0 y1 y2 y3 y4 y5 y6
      unfold laws_FnFieldProducts.l0
      repeat' first
      | (with_reducible exact ih0 _ _ _ _ _ _ _)
      | (with_reducible exact ih1 _ _ _ _)
      | (with_reducible exact LeO.refl _)
      | (with_reducible exact LeO.none _)
      | (with_reducible refine LeO.ite ?_ ?_)
      | (with_reducible refine LeO.bind ?_ (fun _ => ?_))
      | exact ih0 _ _ _ _ _ _ _
      | exact ih1 _ _ _ _
      | exact LeO.none _
      | refine LeO.ite ?_ ?_
      | refine LeO.bind ?_ (fun _ => ?_)
    · intro y0 y1 y2 y3
      unfold laws_FnFieldProducts.l1
      repeat' first
      | (with_reducible exact ih0 _ _ _ _ _ _ _)
      | (with_reducible exact ih1 _ _ _ _)
      | (with_reducible exact LeO.refl _)
      | (with_reducible exact LeO.none _)
      | (with_reducible refine LeO.ite ?_ ?_)
      | (with_reducible refine LeO.bind ?_ (fun _ => ?_))
      | exact ih0 _ _ _ _ _ _ _
      | exact ih1 _ _ _ _
      | exact LeO.none _
      | refine LeO.ite ?_ ?_
      | refine LeO.bind ?_ (fun _ => ?_)
theorem laws_FnFieldProducts.mono : ∀ a0 a1 k, LeO (laws_FnFieldProducts.f k a0 a1) (laws_FnFieldProducts.f (k + 1) a0 a1) := by
  intro a0 a1 k
  obtain ⟨ih0, ih1⟩ := laws_FnFieldProducts.mono_l k
  unfold laws_FnFieldProducts.f
  repeat' first
      | (with_reducible exact ih0 _ _ _ _ _ _ _)
      | (with_reducible exact ih1 _ _ _ _)
      | (with_reducible exact LeO.refl _)
      | (with_reducible exact LeO.none _)
      | (with_reducible refine LeO.ite ?_ ?_)
      | (with_reducible refine LeO.bind ?_ (fun _ => ?_))
      | exact ih0 _ _ _ _ _ _ _
      | exact ih1 _ _ _ _
      | exact LeO.none _
      | refine LeO.ite ?_ ?_
      | refine LeO.bind ?_ (fun _ => ?_)
set_option maxHeartbeats 8000000 in
set_option maxRecDepth 100000 in
theorem laws_FnFieldProducts.calls (k : Nat) (A0 : Option Addr) (c0 : Nat) (l0 : List Int) (a1 : Int) (r : Bool) (w : World) (hGF : GlobF w) (hr0 : Kd.C (Kd.int .u8) w A0 l0.length l0) (hc0 : l0.length ≤ c0) (h : laws_FnFieldProducts.f k l0 a1 = some r) :
    Calls Tryd.prog 3 #[.slice A0 l0.length c0, .int .u8 a1] w fun e w' => e = .returned (.bool r) ∧ Drawn0 w w' := by
  have HR0 := Aside0.mk hr0
  have HC0 := Aside0.mk hc0
  clear hr0 hc0
  have H : (if (l0.length : Int) > 2147483647 then (some true) else (if (l0.length : Int) > 300 then (some true) else (laws_FnFieldProducts.l0 k a1 1 false 1 l0 (l0.length : Int) 0))) = some r := h
  clear h
  by_cases c3 : (l0.length : Int) > 2147483647
  · rw [if_pos c3] at H
    have c3b0 : decide (2147483647 < (l0.length : Int)) = true := decide_eq_true c3
    have c3b1 : decide (2147483647 < l0.length) = true := decide_eq_true (by omega)
    clear c3
    obtain rfl := Option.some.inj H
    go_enter Tryd.func3, Tryd.ntmps3
    go_wp2
    go_ret
    exact ⟨by first | rfl | (simp; done) | (simp [*]; done), by repeat (first | exact Drawn0.refl _ | apply Drawn0.step)⟩
  · rw [if_neg c3] at H
    have c3b0 : decide (2147483647 < (l0.length : Int)) = false := decide_eq_false c3
    have c3b1 : decide (2147483647 < l0.length) = false := decide_eq_false (by omega)
    clear c3
    by_cases c4 : (l0.length : Int) > 300
    · rw [if_pos c4] at H
      have c4b0 : decide (300 < (l0.length : Int)) = true := decide_eq_true c4
      have c4b1 : decide (300 < l0.length) = true := decide_eq_true (by omega)
      clear c4
      obtain rfl := Option.some.inj H
      go_enter Tryd.func3, Tryd.ntmps3
      go_wp2
      go_ret
      exact ⟨by first | rfl | (simp; done) | (simp [*]; done), by repeat (first | exact Drawn0.refl _ | apply Drawn0.step)⟩
    · rw [if_neg c4] at H
      have c4b0 : decide (300 < (l0.length : Int)) = false := decide_eq_false c4
      have c4b1 : decide (300 < l0.length) = false := decide_eq_false (by omega)
      clear c4
      have H' := Aside0.mk H
      clear H
      go_enter Tryd.func3, Tryd.ntmps3
      go_wp2
      try simp only [Act.put, List.setIfInBounds_toArray, List.set_cons_zero, List.set_cons_succ]
      go_loopg [5, 6, 19] k (fun kq v5 v6 v19 w' => ∃ (x5_1 : Int) (x6_1 : Bool) (x19_1 : Int), v5 = .int .u8 x5_1 ∧ v6 = .bool x6_1 ∧ v19 = .int .i64 x19_1 ∧ Aside0 (laws_FnFieldProducts.l0 kq a1 x5_1 x6_1 1 l0 (l0.length : Int) x19_1 = some r) ∧ Aside0 (kq ≤ k) ∧ Drawn0 w w')
      case atStart => exact ⟨(1), (false), (0), (by first | rfl | (simp; done) | (simp [*]; done)), (by first | rfl | (simp; done) | (simp [*]; done)), (by first | rfl | (simp; done) | (simp [*]; done)), H', ⟨Nat.le_refl _⟩, by repeat (first | exact Drawn0.refl _ | apply Drawn0.step)⟩
      case round =>
        clear H'
        try clear p2
        try clear c3
        try clear c3b0
        try clear c3b1
        try clear c4
        try clear c4b0
        try clear c4b1
        obtain ⟨x5_1, x6_1, x19_1, rfl, rfl, rfl, HA, HK1, ⟨m1, rfl⟩⟩ := hrel
        cases gk with
        | zero => exact absurd HA.out (by simp [laws_FnFieldProducts.l0])
        | succ k1 =>
          have H := HA.out
          clear HA
          simp only [laws_FnFieldProducts.l0] at H
          by_cases c5 : x19_1 < (l0.length : Int)
          · rw [if_pos c5] at H
            have c5b0 : decide (x19_1 < (l0.length : Int)) = true := decide_eq_true c5
            clear c5
            by_cases c6 : 0 ≤ x19_1
            · rw [if_pos c6] at H
              have c6b0 : decide (0 ≤ x19_1) = true := decide_eq_true c6
              clear c6
              by_cases c7 : x19_1 < (l0.length : Int)
              · rw [if_pos c7] at H
                have c7b0 : decide (x19_1 < (l0.length : Int)) = true := decide_eq_true c7
                clear c7
                replace H := Option.bind_eq_some_iff.mp H
                obtain ⟨t106, A80, H⟩ := H
                replace H : ((impl_Mul.f x5_1 t106).bind fun t107 => (if x6_1 = true then (laws_FnFieldProducts.l0 k1 a1 t107 true 1 l0 (l0.length : Int) (wrap64 (x19_1 + 1))) else (laws_FnFieldProducts.l0 k1 a1 t107 ((rd l0 x19_1) == a1) 1 l0 (l0.length : Int) (wrap64 (x19_1 + 1))))) = some r := H
                have A8 := Aside0.mk A80
                clear A80
                replace H := Option.bind_eq_some_iff.mp H
                obtain ⟨t107, A90, H⟩ := H
                replace H : (if x6_1 = true then (laws_FnFieldProducts.l0 k1 a1 t107 true 1 l0 (l0.length : Int) (wrap64 (x19_1 + 1))) else (laws_FnFieldProducts.l0 k1 a1 t107 ((rd l0 x19_1) == a1) 1 l0 (l0.length : Int) (wrap64 (x19_1 + 1)))) = some r := H
                have A9 := Aside0.mk A90
                clear A90
                by_cases c10 : x6_1 = true
                · subst c10
                  have H1 : (laws_FnFieldProducts.l0 k1 a1 t107 true 1 l0 (l0.length : Int) (wrap64 (x19_1 + 1))) = some r := by rw [if_pos rfl] at H; exact H
                  clear H
                  have H := H1
                  clear H1
                  have H' := Aside0.mk H
                  clear H
                  have p105 : 0 ≤ (x19_1 : Int) := of_decide_eq_true (by first | (with_reducible assumption) | assumption)
                  have q105 : x19_1 < (l0.length : Int) := of_decide_eq_true (by first | (with_reducible assumption) | assumption)
                  obtain ⟨ad105, e105, hx105_0⟩ := Kd.at_int HR0.out x19_1 p105 q105
                  cases e105
                  replace p105 := eq_true p105
                  replace q105 := eq_true q105
                  go_wp2_with (first | ((with_reducible refine gate_callee (f := 10) rfl ?_); refine goesL_ (some 26) rfl rfl Tryd.func10 (by kernel_rfl) rfl #[.int .u8 a1, .int .u8 (rd l0 x19_1)] rfl (by (try simp only [List.map_toArray, List.map_cons, List.map_nil]); first | done | rfl | (simp only [List.length_drop, List.length_take]; rfl)) ?_; (with_reducible refine (impl_Add.calls a1 (rd l0 x19_1) t106 _ A8.out).mono ?_); rintro e w' ⟨rfl, ⟨nd, rfl⟩⟩; refine ⟨_, rfl, ?_⟩) | ((with_reducible refine gate_callee (f := 9) rfl ?_); refine goesL_ (some 27) rfl rfl Tryd.func9 (by kernel_rfl) rfl #[.int .u8 x5_1, .int .u8 t106] rfl (by (try simp only [List.map_toArray, List.map_cons, List.map_nil]); first | done | rfl | (simp only [List.length_drop, List.length_take]; rfl)) ?_; (with_reducible refine (impl_Mul.calls x5_1 t106 t107 _ ?side1 A9.out).mono ?_); (case side1 => repeat (first | exact hGF | apply GlobF.drewN | apply GlobF.drew)); rintro e w' ⟨rfl, ⟨nd, rfl⟩⟩; refine ⟨_, rfl, ?_⟩))
                  go_roundg k1
                  case measure => have := HK1.out; omega
                  case rel => exact ⟨(t107), (true), (wrap64 (x19_1 + 1)), (by first | rfl | (simp; done) | (simp [*]; done)), (by first | rfl | (simp; done) | (simp [*]; done)), (by first | rfl | (simp; done) | (simp [*]; done)), H', ⟨by have := HK1.out; omega⟩, by repeat (first | exact Drawn0.refl _ | apply Drawn0.step)⟩
                · replace c10 := Bool.eq_false_iff.mpr c10
                  subst c10
                  have H1 : (laws_FnFieldProducts.l0 k1 a1 t107 ((rd l0 x19_1) == a1) 1 l0 (l0.length : Int) (wrap64 (x19_1 + 1))) = some r := by rw [if_neg (show ¬ (false = true) by decide)] at H; exact H
                  clear H
                  have H := H1
                  clear H1
                  have H' := Aside0.mk H
                  clear H
                  have p105 : 0 ≤ (x19_1 : Int) := of_decide_eq_true (by first | (with_reducible assumption) | assumption)
                  have q105 : x19_1 < (l0.length : Int) := of_decide_eq_true (by first | (with_reducible assumption) | assumption)
                  obtain ⟨ad105, e105, hx105_0⟩ := Kd.at_int HR0.out x19_1 p105 q105
                  cases e105
                  replace p105 := eq_true p105
                  replace q105 := eq_true q105
                  go_wp2_with (first | ((with_reducible refine gate_callee (f := 10) rfl ?_); refine goesL_ (some 26) rfl rfl Tryd.func10 (by kernel_rfl) rfl #[.int .u8 a1, .int .u8 (rd l0 x19_1)] rfl (by (try simp only [List.map_toArray, List.map_cons, List.map_nil]); first | done | rfl | (simp only [List.length_drop, List.length_take]; rfl)) ?_; (with_reducible refine (impl_Add.calls a1 (rd l0 x19_1) t106 _ A8.out).mono ?_); rintro e w' ⟨rfl, ⟨nd, rfl⟩⟩; refine ⟨_, rfl, ?_⟩) | ((with_reducible refine gate_callee (f := 9) rfl ?_); refine goesL_ (some 27) rfl rfl Tryd.func9 (by kernel_rfl) rfl #[.int .u8 x5_1, .int .u8 t106] rfl (by (try simp only [List.map_toArray, List.map_cons, List.map_nil]); first | done | rfl | (simp only [List.length_drop, List.length_take]; rfl)) ?_; (with_reducible refine (impl_Mul.calls x5_1 t106 t107 _ ?side1 A9.out).mono ?_); (case side1 => repeat (first | exact hGF | apply GlobF.drewN | apply GlobF.drew)); rintro e w' ⟨rfl, ⟨nd, rfl⟩⟩; refine ⟨_, rfl, ?_⟩))
                  go_roundg k1
                  case measure => have := HK1.out; omega
                  case rel => exact ⟨(t107), (((rd l0 x19_1) == a1)), (wrap64 (x19_1 + 1)), (by first | rfl | (simp; done) | (simp [*]; done)), (by first | rfl | (simp; done) | (simp [*]; done)), (by first | rfl | (simp; done) | (simp [*]; done)), H', ⟨by have := HK1.out; omega⟩, by repeat (first | exact Drawn0.refl _ | apply Drawn0.step)⟩
              · rw [if_neg c7] at H
                exact absurd H (by simp)
            · rw [if_neg c6] at H
              exact absurd H (by simp)
          · rw [if_neg c5] at H
            have c5b0 : decide (x19_1 < (l0.length : Int)) = false := decide_eq_false c5
            clear c5
            have H' := Aside0.mk H
            clear H
            go_wp2
            try simp only [Act.put, List.setIfInBounds_toArray, List.set_cons_zero, List.set_cons_succ]
            go_loopg [7, 10] k1 (fun kq v7 v10 w' => ∃ (x7_2 : Int) (x10_2 : Int), v7 = .int .u8 x7_2 ∧ v10 = .int .i64 x10_2 ∧ Aside0 (laws_FnFieldProducts.l1 kq x5_1 x6_1 x7_2 x10_2 = some r) ∧ Aside0 (kq ≤ k1) ∧ Drawn0 w w')
            case atStart => exact ⟨(1), (1), (by first | rfl | (simp; done) | (simp [*]; done)), (by first | rfl | (simp; done) | (simp [*]; done)), H', ⟨Nat.le_refl _⟩, by repeat (first | exact Drawn0.refl _ | apply Drawn0.step)⟩
            case round =>
              clear H'
              try clear c1
              try clear p1
              try clear q1
              try clear hx1
              try clear p2
              try clear c3
              try clear c3b0
              try clear c3b1
              try clear c4
              try clear c4b0
              try clear c4b1
              try clear c5
              try clear c5b0
              try clear c6
              try clear c6b0
              try clear p6
              try clear c7
              try clear c7b0
              try clear c9
              try clear c10
              try clear p10
              try clear q10
              try clear hx10
              try clear hx105_0
              try clear p105
              try clear p2
              try clear q105
              obtain ⟨x7_2, x10_2, rfl, rfl, HA, HK2, ⟨m2, rfl⟩⟩ := hrel
              cases gk with
              | zero => exact absurd HA.out (by simp [laws_FnFieldProducts.l1])
              | succ k2 =>
                have H := HA.out
                clear HA
                simp only [laws_FnFieldProducts.l1] at H
                by_cases c11 : x10_2 < 256
                · rw [if_pos c11] at H
                  have c11b0 : decide (x10_2 < 256) = true := decide_eq_true c11
                  clear c11
                  replace H := Option.bind_eq_some_iff.mp H
                  obtain ⟨t108, A120, H⟩ := H
                  replace H : (laws_FnFieldProducts.l1 k2 x5_1 x6_1 t108 (wrap64 (x10_2 + 1))) = some r := H
                  have A12 := Aside0.mk A120
                  clear A120
                  have H' := Aside0.mk H
                  clear H
                  go_wp2_with (first | ((with_reducible refine gate_callee (f := 9) rfl ?_); refine goesL_ (some 42) rfl rfl Tryd.func9 (by kernel_rfl) rfl #[.int .u8 x7_2, .int .u8 ((x10_2) % 256)] rfl (by (try simp only [List.map_toArray, List.map_cons, List.map_nil]); first | done | rfl | (simp only [List.length_drop, List.length_take]; rfl)) ?_; (with_reducible refine (impl_Mul.calls x7_2 ((x10_2) % 256) t108 _ ?side1 A12.out).mono ?_); (case side1 => repeat (first | exact hGF | apply GlobF.drewN | apply GlobF.drew)); rintro e w' ⟨rfl, ⟨nd, rfl⟩⟩; refine ⟨_, rfl, ?_⟩))
                  go_roundg k2
                  case measure => have := HK1.out; have := HK2.out; omega
                  case rel => exact ⟨(t108), (wrap64 (x10_2 + 1)), (by first | rfl | (simp; done) | (simp [*]; done)), (by first | rfl | (simp; done) | (simp [*]; done)), H', ⟨by have := HK1.out; have := HK2.out; omega⟩, by repeat (first | exact Drawn0.refl _ | apply Drawn0.step)⟩
                · rw [if_neg c11] at H
                  have c11b0 : decide (x10_2 < 256) = false := decide_eq_false c11
                  clear c11
                  by_cases c13 : ((x5_1 == 0) == x6_1) = true
                  · rw [if_pos c13] at H
                    have c13b0 : ((x5_1 == 0) == x6_1) = true := c13
                    (try (have c13b1 : decide ((x5_1 == 0) = x6_1) = true := by simpa using c13))
                    (try (have c13b2 : ((x5_1 == 0) == x6_1) = true := by simpa using c13))
                    clear c13
                    obtain rfl := Option.some.inj H
                    go_wp2
                    go_ret
                    exact ⟨by first | rfl | (simp; done) | (simp [*]; done), by repeat (first | exact Drawn0.refl _ | apply Drawn0.step)⟩
                  · rw [if_neg c13] at H
                    have c13b0 : ((x5_1 == 0) == x6_1) = false := by simpa using c13
                    (try (have c13b1 : decide ((x5_1 == 0) = x6_1) = false := by simpa using c13))
                    (try (have c13b2 : ((x5_1 == 0) == x6_1) = false := by simpa using c13))
                    (try (have c13b3 : ¬ ((x5_1 == 0) = x6_1) := by simpa using c13))
                    clear c13
                    obtain rfl := Option.some.inj H
                    go_wp2
                    go_ret
                    exact ⟨by first | rfl | (simp; done) | (simp [*]; done), by repeat (first | exact Drawn0.refl _ | apply Drawn0.step)⟩

/-- THE ONE PURE STATEMENT of laws_FnFieldProducts: yours. -/
def laws_FnFieldProducts.Pure : Prop := ∀ (l0 : List Int) (a1 : Int), l0.length ≤ maxLen → l0.length * 1 ≤ 140737488351232 → (∀ x ∈ l0, (Lit.int .u8 x).wf = true) → (Lit.int .u8 a1).wf = true → ∃ k, laws_FnFieldProducts.f k l0 a1 = some true
theorem laws_FnFieldProducts.walk (P : laws_FnFieldProducts.Pure) (a0 : Option Addr) (len0 cap0 : Nat) (z0 : List Int) (a1 : Int) (w : World) (hGF : GlobF w) (w0 : (a0 = none ∧ len0 = 0 ∧ cap0 = 0 ∧ z0 = []) ∨ ∃ x, a0 = some x ∧ len0 ≤ cap0 ∧ cap0 ≤ maxLen ∧ z0.length = cap0 ∧ (∀ i, i < z0.length → w.cell? (x.add i) = some (.int .u8 (z0.getD i 0))) ∧ ∀ n ∈ z0, (Lit.int .u8 n).wf = true) (y0 : len0 * 1 ≤ 140737488351232) (w1 : (Lit.int .u8 a1).wf = true) :
    Calls Tryd.prog 3 #[.slice a0 len0 cap0, .int .u8 a1] w fun e w' => e = .returned (.bool true) ∧ Below w.heap.size w w' := by
  obtain ⟨l0, rfl, hr0, hm0, hw0, hc0⟩ := ReadsInt.ofRowC w0
  obtain ⟨k, h⟩ := P l0 a1 hm0 y0 hw0 w1
  refine (laws_FnFieldProducts.calls k _ _ l0 a1 true w hGF (Kd.C_of_reads (d := (0 : Int)) (h1 := fun _ => rfl) hr0) hc0 h).mono ?_
  rintro e w' ⟨rfl, hd⟩
  exact ⟨rfl, hd.below⟩

/-! ### reedsolomon_galExp: function 45 (given) -/
def gexp (a n : Nat) : Nat := if n = 0 then 1 else if a = 0 then 0 else gpow ((glog a * n) % 255)
def reedsolomon_galExp.f (a0 a1 : Int) : Option (Int) := if 0 ≤ a0 then (if a0 < 256 then (if 0 ≤ a1 then (if a1 ≤ 1000000 then (some ((gexp a0.toNat a1.toNat : Nat) : Int)) else (none)) else (none)) else (none)) else (none)
set_option maxHeartbeats 1000000 in
set_option maxRecDepth 100000 in
theorem reedsolomon_galExp.core (x n z l : Nat) (w : World) (hx : x < 256) (hn : n ≤ 1000000) (hx0 : ((x : Int) == 0) = false) (hn0 : ((n : Int) == 0) = false) (hl : l < 255)
    (c1 : w.cell? ⟨0, x, none⟩ = some (.int .u8 (l : Int)))
    (c3 : w.cell? ⟨1, (l * n) % 255, none⟩ = some (.int .u8 (z : Int))) :
    Calls Tryd.prog 45 #[.int .u8 (x : Int), .int .i64 (n : Int)] w fun e w' => e = .returned (.int .u8 (z : Int)) ∧ Drawn0 w w' := by
  have i1 : (x : Int) < 256 := by omega
  have i3 : (l : Int) < 255 := by omega
  have hT : l * n ≤ 255000000 := Nat.le_trans (Nat.mul_le_mul (show l ≤ 255 by omega) hn) (by decide)
  have kT : IntKind.i64.wrap ((l : Int) * (n : Int)) = ((l * n : Nat) : Int) := by rw [← Int.natCast_mul, IntKind.wrap_i64]; omega
  have kT2 : wrap64 ((l : Int) * (n : Int)) = ((l * n : Nat) : Int) := by rw [← Int.natCast_mul]; unfold wrap64; omega
  have kT3 : (l : Int) * (n : Int) = ((l * n : Nat) : Int) := by rw [← Int.natCast_mul]
  have C3 := Aside0.mk c3
  clear c3
  generalize hTT : l * n = T at *
  clear hTT
  go_enter Tryd.func45, Tryd.ntmps45
  go_wp2
  go_loop [6] (fun v => ∃ m : Nat, v = .int .i64 (m : Int) ∧ Aside0 (m % 255 = T % 255 ∧ m ≤ 255000000)) (fun v => (intOf v).toNat)
  case atStart => exact ⟨T, rfl, ⟨rfl, hT⟩⟩
  case round =>
    obtain ⟨m, rfl, H⟩ := hrel
    obtain ⟨h1, h2⟩ := H.out
    clear H kT kT2 kT3
    by_cases h : 255 ≤ m
    · have k1 : decide (255 ≤ (m : Int)) = true := decide_eq_true (by omega)
      have k3 : (m : Int) - 255 = ((m - 255 : Nat) : Int) := by omega
      have H1 := Aside0.mk h1
      clear h1
      go_wp2
      go_round
      case rel => exact ⟨m - 255, by first | rfl | (simp; done), ⟨by have := H1.out; omega, by omega⟩⟩
      case measure => simp [intOf]; omega
    · have k1 : decide (255 ≤ (m : Int)) = false := decide_eq_false (by omega)
      have hm : m = T % 255 := by omega
      have c3 := C3.out
      rw [← hm] at c3
      have k4 : (m : Int) < 256 := by omega
      clear hm h1 C3 h
      go_wp2
      go_ret
      exact ⟨by first | rfl | (simp; done), by repeat (first | exact Drawn0.refl _ | apply Drawn0.step)⟩
theorem reedsolomon_galExp.calls (a0 a1 : Int) (r : Int) (w : World) (hGF : GlobF w) (h : reedsolomon_galExp.f a0 a1 = some r) :
    Calls Tryd.prog 45 #[.int .u8 a0, .int .i64 a1] w fun e w' => e = .returned (.int .u8 r) ∧ Drawn0 w w' := by
  have hh : 0 ≤ a0 ∧ a0 < 256 ∧ 0 ≤ a1 ∧ a1 ≤ 1000000 ∧ r = ((gexp a0.toNat a1.toNat : Nat) : Int) := by
    unfold reedsolomon_galExp.f at h
    by_cases h0 : 0 ≤ a0
    · by_cases h1 : a0 < 256
      · by_cases h2 : 0 ≤ a1
        · by_cases h3 : a1 ≤ 1000000
          · rw [if_pos h0, if_pos h1, if_pos h2, if_pos h3] at h
            exact ⟨h0, h1, h2, h3, (Option.some.inj h).symm⟩
          · rw [if_pos h0, if_pos h1, if_pos h2, if_neg h3] at h
            exact absurd h (by simp)
        · rw [if_pos h0, if_pos h1, if_neg h2] at h
          exact absurd h (by simp)
      · rw [if_pos h0, if_neg h1] at h
        exact absurd h (by simp)
    · rw [if_neg h0] at h
      exact absurd h (by simp)
  clear h
  obtain ⟨h0, h1, h2, h3, hr⟩ := hh
  subst hr
  obtain ⟨x, rfl⟩ := Int.eq_ofNat_of_zero_le h0
  obtain ⟨y, rfl⟩ := Int.eq_ofNat_of_zero_le h2
  rw [Int.toNat_natCast, Int.toNat_natCast]
  unfold gexp
  by_cases hy : y = 0
  · subst hy
    rw [if_pos rfl]
    clear h0 h1 h2 h3 hGF
    go_enter Tryd.func45, Tryd.ntmps45
    go_wp2
    go_ret
    exact ⟨rfl, Drawn0.refl _⟩
  · rw [if_neg hy]
    by_cases hx : x = 0
    · subst hx
      rw [if_pos rfl]
      have e0 : ((y : Int) == 0) = false := by simp; omega
      clear h0 h1 h2 h3 hGF hy
      go_enter Tryd.func45, Tryd.ntmps45
      go_wp2
      go_ret
      exact ⟨rfl, Drawn0.refl _⟩
    · rw [if_neg hx]
      exact reedsolomon_galExp.core x y _ _ w (by omega) (by omega) (by simp; omega) (by simp; omega) (glog_lt x) (hGF.log x (by omega)) (hGF.exp _ (by omega))

/-! ### reedsolomon_DoorExp: function 32 -/
def reedsolomon_DoorExp.f (a0 : Int) (a1 : Int) : Option (Int) := (reedsolomon_galExp.f a0 a1).bind fun t109 => (some t109)
set_option maxHeartbeats 8000000 in
set_option maxRecDepth 100000 in
theorem reedsolomon_DoorExp.calls (a0 : Int) (a1 : Int) (r : Int) (w : World) (hGF : GlobF w) (h : reedsolomon_DoorExp.f a0 a1 = some r) :
    Calls Tryd.prog 32 #[.int .u8 a0, .int .i64 a1] w fun e w' => e = .returned (.int .u8 r) ∧ Drawn0 w w' := by
  have H : ((reedsolomon_galExp.f a0 a1).bind fun t109 => (some t109)) = some r := h
  clear h
  replace H := Option.bind_eq_some_iff.mp H
  obtain ⟨t109, A30, H⟩ := H
  replace H : (some t109) = some r := H
  have A3 := Aside0.mk A30
  clear A30
  obtain rfl := Option.some.inj H
  go_enter Tryd.func32, Tryd.ntmps32
  go_wp2_with (first | ((with_reducible refine gate_callee (f := 45) rfl ?_); refine goesL_ (some 7) rfl rfl Tryd.func45 (by kernel_rfl) rfl #[.int .u8 a0, .int .i64 a1] rfl (by (try simp only [List.map_toArray, List.map_cons, List.map_nil]); first | done | rfl | (simp only [List.length_drop, List.length_take]; rfl)) ?_; (with_reducible refine (reedsolomon_galExp.calls a0 a1 t109 _ ?side1 A3.out).mono ?_); (case side1 => repeat (first | exact hGF | apply GlobF.drewN | apply GlobF.drew)); rintro e w' ⟨rfl, ⟨nd, rfl⟩⟩; refine ⟨_, rfl, ?_⟩))
  go_ret
  exact ⟨by first | rfl | (simp; done) | (simp [*]; done), by repeat (first | exact Drawn0.refl _ | apply Drawn0.step)⟩

/-! ### impl_Exp: function 11 -/
def impl_Exp.f (a0 : Int) (a1 : Int) : Option (Int × Bool) := if a1 < 0 then (some (0, false)) else (if a1 > 100000 then (some (0, false)) else ((reedsolomon_DoorExp.f a0 a1).bind fun t110 => (some (t110, true))))
set_option maxHeartbeats 8000000 in
set_option maxRecDepth 100000 in
theorem impl_Exp.calls (a0 : Int) (a1 : Int) (r1 : Int) (r2 : Bool) (w : World) (hGF : GlobF w) (h : impl_Exp.f a0 a1 = some (r1, r2)) :
    Calls Tryd.prog 11 #[.int .u8 a0, .int .i64 a1] w fun e w' => e = .returned (.tuple #[.int .u8 r1, .bool r2]) ∧ Drawn0 w w' := by
  have H : (if a1 < 0 then (some (0, false)) else (if a1 > 100000 then (some (0, false)) else ((reedsolomon_DoorExp.f a0 a1).bind fun t110 => (some (t110, true))))) = some (r1, r2) := h
  clear h
  by_cases c3 : a1 < 0
  · rw [if_pos c3] at H
    have c3b0 : decide (a1 < 0) = true := decide_eq_true c3
    clear c3
    simp only [Option.some.injEq, Prod.mk.injEq] at H
    obtain ⟨rfl, rfl⟩ := H
    go_enter Tryd.func11, Tryd.ntmps11
    go_wp2
    go_ret2
    exact ⟨by first | rfl | (simp; done) | (simp [*]; done), by repeat (first | exact Drawn0.refl _ | apply Drawn0.step)⟩
  · rw [if_neg c3] at H
    have c3b0 : decide (a1 < 0) = false := decide_eq_false c3
    clear c3
    by_cases c4 : a1 > 100000
    · rw [if_pos c4] at H
      have c4b0 : decide (100000 < a1) = true := decide_eq_true c4
      clear c4
      simp only [Option.some.injEq, Prod.mk.injEq] at H
      obtain ⟨rfl, rfl⟩ := H
      go_enter Tryd.func11, Tryd.ntmps11
      go_wp2
      go_ret2
      exact ⟨by first | rfl | (simp; done) | (simp [*]; done), by repeat (first | exact Drawn0.refl _ | apply Drawn0.step)⟩
    · rw [if_neg c4] at H
      have c4b0 : decide (100000 < a1) = false := decide_eq_false c4
      clear c4
      replace H := Option.bind_eq_some_iff.mp H
      obtain ⟨t110, A50, H⟩ := H
      replace H : (some (t110, true)) = some (r1, r2) := H
      have A5 := Aside0.mk A50
      clear A50
      simp only [Option.some.injEq, Prod.mk.injEq] at H
      obtain ⟨rfl, rfl⟩ := H
      go_enter Tryd.func11, Tryd.ntmps11
      go_wp2_with (first | ((with_reducible refine gate_callee (f := 32) rfl ?_); refine goesL_ (some 14) rfl rfl Tryd.func32 (by kernel_rfl) rfl #[.int .u8 a0, .int .i64 a1] rfl (by (try simp only [List.map_toArray, List.map_cons, List.map_nil]); first | done | rfl | (simp only [List.length_drop, List.length_take]; rfl)) ?_; (with_reducible refine (reedsolomon_DoorExp.calls a0 a1 t110 _ ?side1 A5.out).mono ?_); (case side1 => repeat (first | exact hGF | apply GlobF.drewN | apply GlobF.drew)); rintro e w' ⟨rfl, ⟨nd, rfl⟩⟩; refine ⟨_, rfl, ?_⟩))
      go_ret2
      exact ⟨by first | rfl | (simp; done) | (simp [*]; done), by repeat (first | exact Drawn0.refl _ | apply Drawn0.step)⟩

/-! ### laws_FnFieldGenerates: function 4 -/
def laws_FnFieldGenerates.j0 : Nat → Int → Int → Bool → Option (Bool)
  | 0, _, _, _ => none
  | k + 1, x0, x1, x22 => if x22 = true then (some true) else ((impl_Exp.f 2 x0).bind fun bt111 => ((impl_Exp.f 2 x1).bind fun bt113 => (if bt111.2 = true then (if bt113.2 = true then (if bt111.1 = 0 then (some false) else (some ((bt111.1 == bt113.1) == ((Int.tmod x0 255) == (Int.tmod x1 255))))) else (some false)) else (some false))))
def laws_FnFieldGenerates.f (k : Nat) (a0 : Int) (a1 : Int) : Option (Bool) := if a0 < 0 then (laws_FnFieldGenerates.j0 k a0 a1 true) else (if a0 > 100000 then (laws_FnFieldGenerates.j0 k a0 a1 true) else (if a1 < 0 then (laws_FnFieldGenerates.j0 k a0 a1 true) else (laws_FnFieldGenerates.j0 k a0 a1 (decide (a1 > 100000)))))
theorem laws_FnFieldGenerates.mono_l : ∀ k, (∀ y0 y1 y2, LeO (laws_FnFieldGenerates.j0 k y0 y1 y2) (laws_FnFieldGenerates.j0 (k + 1) y0 y1 y2))
  | 0 => fun _ _ _ r h => by simp [laws_FnFieldGenerates.j0] at h
  | k + 1 => by
    have ih0 := laws_FnFieldGenerates.mono_l k
    · intro y0 y1 y2
      unfold laws_FnFieldGenerates.j0
      repeat' first
      | (with_reducible exact ih0 _ _ _)
      | (with_reducible exact LeO.refl _)
      | (with_reducible exact LeO.none _)
      | (with_reducible refine LeO.ite ?_ ?_)
      | (with_reducible refine LeO.bind ?_ (fun _ => ?_))
      | exact ih0 _ _ _
      | exact LeO.none _
      | refine LeO.ite ?_ ?_
      | refine LeO.bind ?_ (fun _ => ?_)
theorem laws_FnFieldGenerates.mono : ∀ a0 a1 k, LeO (laws_FnFieldGenerates.f k a0 a1) (laws_FnFieldGenerates.f (k + 1) a0 a1) := by
  intro a0 a1 k
  have ih0 := laws_FnFieldGenerates.mono_l k
  unfold laws_FnFieldGenerates.f
  repeat' first
      | (with_reducible exact ih0 _ _ _)
      | (with_reducible exact LeO.refl _)
      | (with_reducible exact LeO.none _)
      | (with_reducible refine LeO.ite ?_ ?_)
      | (with_reducible refine LeO.bind ?_ (fun _ => ?_))
      | exact ih0 _ _ _
      | exact LeO.none _
      | refine LeO.ite ?_ ?_
      | refine LeO.bind ?_ (fun _ => ?_)
set_option maxHeartbeats 8000000 in
set_option maxRecDepth 100000 in
theorem laws_FnFieldGenerates.calls (k : Nat) (a0 : Int) (a1 : Int) (r : Bool) (w : World) (hGF : GlobF w) (h : laws_FnFieldGenerates.f k a0 a1 = some r) :
    Calls Tryd.prog 4 #[.int .i64 a0, .int .i64 a1] w fun e w' => e = .returned (.bool r) ∧ Drawn0 w w' := by
  have H : (if a0 < 0 then (laws_FnFieldGenerates.j0 k a0 a1 true) else (if a0 > 100000 then (laws_FnFieldGenerates.j0 k a0 a1 true) else (if a1 < 0 then (laws_FnFieldGenerates.j0 k a0 a1 true) else (laws_FnFieldGenerates.j0 k a0 a1 (decide (a1 > 100000)))))) = some r := h
  clear h
  have HC3 := Aside0.mk H
  clear H
  go_enter Tryd.func4, Tryd.ntmps4
  go_upto_region 1 with (fail)
  go_cut [22] (fun v22 wc => ∃ (kq : Nat) (x22_2 : Bool), v22 = .bool x22_2 ∧ Aside0 (laws_FnFieldGenerates.j0 kq a0 a1 x22_2 = some r) ∧ Aside0 (kq ≤ k) ∧ Drawn0 w wc)
  case first =>
    have H := HC3.out
    clear HC3
    by_cases c4 : a0 < 0
    · rw [if_pos c4] at H
      have c4b0 : decide (a0 < 0) = true := decide_eq_true c4
      clear c4
      (first | rw [c4b0] | (simp only [i64_w, i32_w]; rw [c4b0]) | skip)
      have H' := Aside0.mk H
      clear H
      go_wp2
      go_meet
      case rel => exact ⟨_, (true), (by first | rfl | (simp; done) | (simp [*]; done)), H', ⟨by first | omega | exact Nat.le_refl _⟩, by repeat (first | exact Drawn0.refl _ | apply Drawn0.step)⟩
    · rw [if_neg c4] at H
      have c4b0 : decide (a0 < 0) = false := decide_eq_false c4
      clear c4
      (first | rw [c4b0] | (simp only [i64_w, i32_w]; rw [c4b0]) | skip)
      by_cases c5 : a0 > 100000
      · rw [if_pos c5] at H
        have c5b0 : decide (100000 < a0) = true := decide_eq_true c5
        clear c5
        have H' := Aside0.mk H
        clear H
        go_wp2
        go_meet
        case rel => exact ⟨_, (true), (by first | rfl | (simp; done) | (simp [*]; done)), H', ⟨by first | omega | exact Nat.le_refl _⟩, by repeat (first | exact Drawn0.refl _ | apply Drawn0.step)⟩
      · rw [if_neg c5] at H
        have c5b0 : decide (100000 < a0) = false := decide_eq_false c5
        clear c5
        by_cases c6 : a1 < 0
        · rw [if_pos c6] at H
          have c6b0 : decide (a1 < 0) = true := decide_eq_true c6
          clear c6
          have H' := Aside0.mk H
          clear H
          go_wp2
          go_meet
          case rel => exact ⟨_, (true), (by first | rfl | (simp; done) | (simp [*]; done)), H', ⟨by first | omega | exact Nat.le_refl _⟩, by repeat (first | exact Drawn0.refl _ | apply Drawn0.step)⟩
        · rw [if_neg c6] at H
          have c6b0 : decide (a1 < 0) = false := decide_eq_false c6
          clear c6
          have H' := Aside0.mk H
          clear H
          go_wp2
          go_meet
          case rel => exact ⟨_, (decide (a1 > 100000)), (by first | rfl | (simp; done) | (simp [*]; done)), H', ⟨by first | omega | exact Nat.le_refl _⟩, by repeat (first | exact Drawn0.refl _ | apply Drawn0.step)⟩
  case rest =>
    clear HC3
    try clear p2
    try clear c4
    try clear c4b0
    try clear c5
    try clear c5b0
    try clear c6
    try clear c6b0
    obtain ⟨kq, x22_2, rfl, HA, HJ2, ⟨mc2, rfl⟩⟩ := hcut
    cases kq with
    | zero => exact absurd HA.out (by simp [laws_FnFieldGenerates.j0])
    | succ kj2 =>
      have H := HA.out
      clear HA
      simp only [laws_FnFieldGenerates.j0] at H
      by_cases c7 : x22_2 = true
      · subst c7
        have H1 : (some true) = some r := by rw [if_pos rfl] at H; exact H
        clear H
        have H := H1
        clear H1
        obtain rfl := Option.some.inj H
        go_wp2
        go_ret
        exact ⟨by first | rfl | (simp; done) | (simp [*]; done), by repeat (first | exact Drawn0.refl _ | apply Drawn0.step)⟩
      · replace c7 := Bool.eq_false_iff.mpr c7
        subst c7
        have H1 : ((impl_Exp.f 2 a0).bind fun bt111 => ((impl_Exp.f 2 a1).bind fun bt113 => (if bt111.2 = true then (if bt113.2 = true then (if bt111.1 = 0 then (some false) else (some ((bt111.1 == bt113.1) == ((Int.tmod a0 255) == (Int.tmod a1 255))))) else (some false)) else (some false)))) = some r := by rw [if_neg (show ¬ (false = true) by decide)] at H; exact H
        clear H
        have H := H1
        clear H1
        replace H := Option.bind_eq_some_iff.mp H
        obtain ⟨⟨t111, t112⟩, A80, H⟩ := H
        replace H : ((impl_Exp.f 2 a1).bind fun bt113 => (if t112 = true then (if bt113.2 = true then (if t111 = 0 then (some false) else (some ((t111 == bt113.1) == ((Int.tmod a0 255) == (Int.tmod a1 255))))) else (some false)) else (some false))) = some r := H
        have A8 := Aside0.mk A80
        clear A80
        replace H := Option.bind_eq_some_iff.mp H
        obtain ⟨⟨t113, t114⟩, A90, H⟩ := H
        replace H : (if t112 = true then (if t114 = true then (if t111 = 0 then (some false) else (some ((t111 == t113) == ((Int.tmod a0 255) == (Int.tmod a1 255))))) else (some false)) else (some false)) = some r := H
        have A9 := Aside0.mk A90
        clear A90
        by_cases c10 : t112 = true
        · subst c10
          have H1 : (if t114 = true then (if t111 = 0 then (some false) else (some ((t111 == t113) == ((Int.tmod a0 255) == (Int.tmod a1 255))))) else (some false)) = some r := by rw [if_pos rfl] at H; exact H
          clear H
          have H := H1
          clear H1
          by_cases c11 : t114 = true
          · subst c11
            have H1 : (if t111 = 0 then (some false) else (some ((t111 == t113) == ((Int.tmod a0 255) == (Int.tmod a1 255))))) = some r := by rw [if_pos rfl] at H; exact H
            clear H
            have H := H1
            clear H1
            by_cases c12 : t111 = 0
            · rw [if_pos c12] at H
              have c12b0 : (t111 == 0) = true := beq_iff_eq.mpr c12
              have c12b1 : (t111 != 0) = false := bne_eq_false_iff_eq.mpr c12
              clear c12
              obtain rfl := Option.some.inj H
              go_wp2_with (first | ((with_reducible refine gate_callee (f := 11) rfl ?_); refine goesL_ (some 25) rfl rfl Tryd.func11 (by kernel_rfl) rfl #[.int .u8 2, .int .i64 a0] rfl (by (try simp only [List.map_toArray, List.map_cons, List.map_nil]); first | done | rfl | (simp only [List.length_drop, List.length_take]; rfl)) ?_; (with_reducible refine (impl_Exp.calls 2 a0 t111 true _ ?side1 A8.out).mono ?_); (case side1 => repeat (first | exact hGF | apply GlobF.drewN | apply GlobF.drew)); rintro e w' ⟨rfl, ⟨nd, rfl⟩⟩; refine ⟨_, rfl, ?_⟩) | ((with_reducible refine gate_callee (f := 11) rfl ?_); refine goesL_ (some 30) rfl rfl Tryd.func11 (by kernel_rfl) rfl #[.int .u8 2, .int .i64 a1] rfl (by (try simp only [List.map_toArray, List.map_cons, List.map_nil]); first | done | rfl | (simp only [List.length_drop, List.length_take]; rfl)) ?_; (with_reducible refine (impl_Exp.calls 2 a1 t113 true _ ?side1 A9.out).mono ?_); (case side1 => repeat (first | exact hGF | apply GlobF.drewN | apply GlobF.drew)); rintro e w' ⟨rfl, ⟨nd, rfl⟩⟩; refine ⟨_, rfl, ?_⟩))
              go_ret
              exact ⟨by first | rfl | (simp; done) | (simp [*]; done), by repeat (first | exact Drawn0.refl _ | apply Drawn0.step)⟩
            · rw [if_neg c12] at H
              have c12b0 : (t111 == 0) = false := beq_eq_false_iff_ne.mpr c12
              have c12b1 : (t111 != 0) = true := bne_iff_ne.mpr c12
              obtain rfl := Option.some.inj H
              go_wp2_with (first | ((with_reducible refine gate_callee (f := 11) rfl ?_); refine goesL_ (some 25) rfl rfl Tryd.func11 (by kernel_rfl) rfl #[.int .u8 2, .int .i64 a0] rfl (by (try simp only [List.map_toArray, List.map_cons, List.map_nil]); first | done | rfl | (simp only [List.length_drop, List.length_take]; rfl)) ?_; (with_reducible refine (impl_Exp.calls 2 a0 t111 true _ ?side1 A8.out).mono ?_); (case side1 => repeat (first | exact hGF | apply GlobF.drewN | apply GlobF.drew)); rintro e w' ⟨rfl, ⟨nd, rfl⟩⟩; refine ⟨_, rfl, ?_⟩) | ((with_reducible refine gate_callee (f := 11) rfl ?_); refine goesL_ (some 30) rfl rfl Tryd.func11 (by kernel_rfl) rfl #[.int .u8 2, .int .i64 a1] rfl (by (try simp only [List.map_toArray, List.map_cons, List.map_nil]); first | done | rfl | (simp only [List.length_drop, List.length_take]; rfl)) ?_; (with_reducible refine (impl_Exp.calls 2 a1 t113 true _ ?side1 A9.out).mono ?_); (case side1 => repeat (first | exact hGF | apply GlobF.drewN | apply GlobF.drew)); rintro e w' ⟨rfl, ⟨nd, rfl⟩⟩; refine ⟨_, rfl, ?_⟩))
              go_ret
              exact ⟨by first | rfl | (simp; done) | (simp [*]; done), by repeat (first | exact Drawn0.refl _ | apply Drawn0.step)⟩
          · replace c11 := Bool.eq_false_iff.mpr c11
            subst c11
            have H1 : (some false) = some r := by rw [if_neg (show ¬ (false = true) by decide)] at H; exact H
            clear H
            have H := H1
            clear H1
            obtain rfl := Option.some.inj H
            go_wp2_with (first | ((with_reducible refine gate_callee (f := 11) rfl ?_); refine goesL_ (some 25) rfl rfl Tryd.func11 (by kernel_rfl) rfl #[.int .u8 2, .int .i64 a0] rfl (by (try simp only [List.map_toArray, List.map_cons, List.map_nil]); first | done | rfl | (simp only [List.length_drop, List.length_take]; rfl)) ?_; (with_reducible refine (impl_Exp.calls 2 a0 t111 true _ ?side1 A8.out).mono ?_); (case side1 => repeat (first | exact hGF | apply GlobF.drewN | apply GlobF.drew)); rintro e w' ⟨rfl, ⟨nd, rfl⟩⟩; refine ⟨_, rfl, ?_⟩) | ((with_reducible refine gate_callee (f := 11) rfl ?_); refine goesL_ (some 30) rfl rfl Tryd.func11 (by kernel_rfl) rfl #[.int .u8 2, .int .i64 a1] rfl (by (try simp only [List.map_toArray, List.map_cons, List.map_nil]); first | done | rfl | (simp only [List.length_drop, List.length_take]; rfl)) ?_; (with_reducible refine (impl_Exp.calls 2 a1 t113 false _ ?side1 A9.out).mono ?_); (case side1 => repeat (first | exact hGF | apply GlobF.drewN | apply GlobF.drew)); rintro e w' ⟨rfl, ⟨nd, rfl⟩⟩; refine ⟨_, rfl, ?_⟩))
            go_ret
            exact ⟨by first | rfl | (simp; done) | (simp [*]; done), by repeat (first | exact Drawn0.refl _ | apply Drawn0.step)⟩
        · replace c10 := Bool.eq_false_iff.mpr c10
          subst c10
          have H1 : (some false) = some r := by rw [if_neg (show ¬ (false = true) by decide)] at H; exact H
          clear H
          have H := H1
          clear H1
          obtain rfl := Option.some.inj H
          go_wp2_with (first | ((with_reducible refine gate_callee (f := 11) rfl ?_); refine goesL_ (some 25) rfl rfl Tryd.func11 (by kernel_rfl) rfl #[.int .u8 2, .int .i64 a0] rfl (by (try simp only [List.map_toArray, List.map_cons, List.map_nil]); first | done | rfl | (simp only [List.length_drop, List.length_take]; rfl)) ?_; (with_reducible refine (impl_Exp.calls 2 a0 t111 false _ ?side1 A8.out).mono ?_); (case side1 => repeat (first | exact hGF | apply GlobF.drewN | apply GlobF.drew)); rintro e w' ⟨rfl, ⟨nd, rfl⟩⟩; refine ⟨_, rfl, ?_⟩) | ((with_reducible refine gate_callee (f := 11) rfl ?_); refine goesL_ (some 30) rfl rfl Tryd.func11 (by kernel_rfl) rfl #[.int .u8 2, .int .i64 a1] rfl (by (try simp only [List.map_toArray, List.map_cons, List.map_nil]); first | done | rfl | (simp only [List.length_drop, List.length_take]; rfl)) ?_; (with_reducible refine (impl_Exp.calls 2 a1 t113 t114 _ ?side1 A9.out).mono ?_); (case side1 => repeat (first | exact hGF | apply GlobF.drewN | apply GlobF.drew)); rintro e w' ⟨rfl, ⟨nd, rfl⟩⟩; refine ⟨_, rfl, ?_⟩))
          go_ret
          exact ⟨by first | rfl | (simp; done) | (simp [*]; done), by repeat (first | exact Drawn0.refl _ | apply Drawn0.step)⟩

/-- THE ONE PURE STATEMENT of laws_FnFieldGenerates: yours. -/
def laws_FnFieldGenerates.Pure : Prop := ∀ (a0 : Int) (a1 : Int), (Lit.int .i64 a0).wf = true → (Lit.int .i64 a1).wf = true → ∃ k, laws_FnFieldGenerates.f k a0 a1 = some true
theorem laws_FnFieldGenerates.walk (P : laws_FnFieldGenerates.Pure) (a0 : Int) (a1 : Int) (w : World) (hGF : GlobF w) (w0 : (Lit.int .i64 a0).wf = true) (w1 : (Lit.int .i64 a1).wf = true) :
    Calls Tryd.prog 4 #[.int .i64 a0, .int .i64 a1] w fun e w' => e = .returned (.bool true) ∧ Below w.heap.size w w' := by
  obtain ⟨k, h⟩ := P a0 a1 w0 w1
  refine (laws_FnFieldGenerates.calls k a0 a1 true w hGF h).mono ?_
  rintro e w' ⟨rfl, hd⟩
  exact ⟨rfl, hd.below⟩

-- NOT PRINTED: function 46 (reedsolomon_errorBitfield8_set)

-- NOT PRINTED: function 47 (reedsolomon_errorBitfield8_prepare)

-- NOT PRINTED: function 48 (reedsolomon_errorBitfield8_isNeeded)

-- NOT PRINTED: function 33 (reedsolomon_DoorNeeded)

-- NOT PRINTED: function 12 (impl_Needed)

-- NOT PRINTED: function 5 (laws_FnNeeded)

end Go.Proofs.YtpeikjnkbjabpaaDoor.X
