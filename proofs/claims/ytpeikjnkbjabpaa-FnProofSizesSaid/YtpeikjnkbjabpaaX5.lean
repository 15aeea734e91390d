-- laid by xprint.py (a program of this session over the kit's print); Lean checks it
import Derived.Test.YtpeikjnkbjabpaaX0
import Derived.Test.YtpeikjnkbjabpaaX3
import Derived.Test.YtpeikjnkbjabpaaX4
namespace Go.Proofs.Ytpeikjnkbjabpaa.X
open Go.RowKit Go.Proofs.YtpeikjnkbjabpaaW.PrintWords Go.Proofs.YtpeikjnkbjabpaaW.PrintLast Go.Proofs.YtpeikjnkbjabpaaW.PrintMore
attribute [local go_sem] max2_int min2_int max_two min_two max_three min_three max_four min_four   -- for this text's walks alone
set_option linter.unusedVariables false
set_option linter.unusedSimpArgs false

/-! ### laws_FnProofSizes: function 6 -/
def laws_FnProofSizes.f (k : Nat) (a0 : Int) (a1 : Int) : Option (Bool) := (impl_ProofSizes.f a0 a1).bind fun bt169 => (if a0 ≥ a1 then (if bt169.1 = 0 then (some (bt169.2 == 0)) else (some false)) else ((spec_Inner.f k a0 a1).bind fun t171 => (if bt169.1 = t171 then ((spec_PathParts.f k a0 a1).bind fun t172 => (some ((wrap64 (bt169.1 + bt169.2)) == (t172.length : Int)))) else (some false))))
theorem laws_FnProofSizes.mono : ∀ a0 a1 k, LeO (laws_FnProofSizes.f k a0 a1) (laws_FnProofSizes.f (k + 1) a0 a1) := by
  intro a0 a1 k
  unfold laws_FnProofSizes.f
  repeat' first
      | (with_reducible exact spec_Inner.mono _ _ _)
      | (with_reducible exact spec_PathParts.mono _ _ _)
      | (with_reducible exact LeO.refl _)
      | (with_reducible exact LeO.none _)
      | (with_reducible refine LeO.ite ?_ ?_)
      | (with_reducible refine LeO.bind ?_ (fun _ => ?_))
      | exact spec_Inner.mono _ _ _
      | exact spec_PathParts.mono _ _ _
      | exact LeO.none _
      | refine LeO.ite ?_ ?_
      | refine LeO.bind ?_ (fun _ => ?_)
set_option maxHeartbeats 8000000 in
set_option maxRecDepth 100000 in
theorem laws_FnProofSizes.calls (k : Nat) (a0 : Int) (a1 : Int) (r : Bool) (w : World) (h : laws_FnProofSizes.f k a0 a1 = some r) :
    Calls Try.prog 6 #[.int .u64 a0, .int .u64 a1] w fun e w' => e = .returned (.bool r) ∧ Below w.heap.size w w' := by
  have HB := Aside0.mk (Below.refl w.heap.size w)
  have H : ((impl_ProofSizes.f a0 a1).bind fun bt169 => (if a0 ≥ a1 then (if bt169.1 = 0 then (some (bt169.2 == 0)) else (some false)) else ((spec_Inner.f k a0 a1).bind fun t171 => (if bt169.1 = t171 then ((spec_PathParts.f k a0 a1).bind fun t172 => (some ((wrap64 (bt169.1 + bt169.2)) == (t172.length : Int)))) else (some false))))) = some r := h
  clear h
  replace H := Option.bind_eq_some_iff.mp H
  obtain ⟨⟨t169, t170⟩, A30, H⟩ := H
  replace H : (if a0 ≥ a1 then (if t169 = 0 then (some (t170 == 0)) else (some false)) else ((spec_Inner.f k a0 a1).bind fun t171 => (if t169 = t171 then ((spec_PathParts.f k a0 a1).bind fun t172 => (some ((wrap64 (t169 + t170)) == (t172.length : Int)))) else (some false)))) = some r := H
  have A3 := Aside0.mk A30
  clear A30
  by_cases c4 : a0 ≥ a1
  · rw [if_pos c4] at H
    have c4b0 : decide (a1 ≤ a0) = true := decide_eq_true c4
    clear c4
    by_cases c5 : t169 = 0
    · rw [if_pos c5] at H
      have c5b0 : (t169 == 0) = true := beq_iff_eq.mpr c5
      have c5b1 : (t169 != 0) = false := bne_eq_false_iff_eq.mpr c5
      clear c5
      obtain rfl := Option.some.inj H
      go_enter Try.func6, Try.ntmps6
      go_wp2_with (first | ((with_reducible refine gate_callee (f := 13) rfl ?_); refine goesL_ (some 10) rfl rfl Try.func13 (by kernel_rfl) rfl #[.int .u64 a0, .int .u64 a1] rfl (by (try simp only [List.map_toArray, List.map_cons, List.map_nil]); first | done | rfl | (simp only [List.length_drop, List.length_take]; rfl)) ?_; (with_reducible refine (impl_ProofSizes.calls a0 a1 t169 t170 _ A3.out).mono ?_); rintro e w' ⟨rfl, ⟨nd, rfl⟩⟩; refine ⟨_, rfl, ?_⟩))
      go_ret
      exact ⟨by first | rfl | (simp [errW_none, errW_some] <;> rfl) | (simp [*, errW_none, errW_some] <;> rfl), by repeat (first | (with_reducible first | exact HB.out | apply below_alloc | apply pw_below_drewN | apply below_drew1) | exact HB.out)⟩
    · rw [if_neg c5] at H
      have c5b0 : (t169 == 0) = false := beq_eq_false_iff_ne.mpr c5
      have c5b1 : (t169 != 0) = true := bne_iff_ne.mpr c5
      obtain rfl := Option.some.inj H
      go_enter Try.func6, Try.ntmps6
      go_wp2_with (first | ((with_reducible refine gate_callee (f := 13) rfl ?_); refine goesL_ (some 10) rfl rfl Try.func13 (by kernel_rfl) rfl #[.int .u64 a0, .int .u64 a1] rfl (by (try simp only [List.map_toArray, List.map_cons, List.map_nil]); first | done | rfl | (simp only [List.length_drop, List.length_take]; rfl)) ?_; (with_reducible refine (impl_ProofSizes.calls a0 a1 t169 t170 _ A3.out).mono ?_); rintro e w' ⟨rfl, ⟨nd, rfl⟩⟩; refine ⟨_, rfl, ?_⟩))
      go_ret
      exact ⟨by first | rfl | (simp [errW_none, errW_some] <;> rfl) | (simp [*, errW_none, errW_some] <;> rfl), by repeat (first | (with_reducible first | exact HB.out | apply below_alloc | apply pw_below_drewN | apply below_drew1) | exact HB.out)⟩
  · rw [if_neg c4] at H
    have c4b0 : decide (a1 ≤ a0) = false := decide_eq_false c4
    clear c4
    replace H := Option.bind_eq_some_iff.mp H
    obtain ⟨t171, A60, H⟩ := H
    replace H : (if t169 = t171 then ((spec_PathParts.f k a0 a1).bind fun t172 => (some ((wrap64 (t169 + t170)) == (t172.length : Int)))) else (some false)) = some r := H
    have A6 := Aside0.mk A60
    clear A60
    by_cases c7 : t169 = t171
    · rw [if_pos c7] at H
      have c7b0 : (t169 == t171) = true := beq_iff_eq.mpr c7
      have c7b1 : (t169 != t171) = false := bne_eq_false_iff_eq.mpr c7
      clear c7
      replace H := Option.bind_eq_some_iff.mp H
      obtain ⟨t172, A80, H⟩ := H
      replace H : (some ((wrap64 (t169 + t170)) == (t172.length : Int))) = some r := H
      have A8 := Aside0.mk A80
      clear A80
      obtain rfl := Option.some.inj H
      go_enter Try.func6, Try.ntmps6
      go_wp2_with (first | ((with_reducible refine gate_callee (f := 13) rfl ?_); refine goesL_ (some 10) rfl rfl Try.func13 (by kernel_rfl) rfl #[.int .u64 a0, .int .u64 a1] rfl (by (try simp only [List.map_toArray, List.map_cons, List.map_nil]); first | done | rfl | (simp only [List.length_drop, List.length_take]; rfl)) ?_; (with_reducible refine (impl_ProofSizes.calls a0 a1 t169 t170 _ A3.out).mono ?_); rintro e w' ⟨rfl, ⟨nd, rfl⟩⟩; refine ⟨_, rfl, ?_⟩) | ((with_reducible refine gate_callee (f := 14) rfl ?_); refine goesL_ (some 25) rfl rfl Try.func14 (by kernel_rfl) rfl #[.int .u64 a0, .int .u64 a1] rfl (by (try simp only [List.map_toArray, List.map_cons, List.map_nil]); first | done | rfl | (simp only [List.length_drop, List.length_take]; rfl)) ?_; (with_reducible refine (spec_Inner.calls k a0 a1 t171 _ A6.out).mono ?_); rintro e w' ⟨rfl, ⟨nd, rfl⟩⟩; refine ⟨_, rfl, ?_⟩) | (go_at_call 15; (with_reducible refine (spec_PathParts.calls k a0 a1 t172 _ A8.out).mono ?_); rintro e w9 ⟨v173, rfl, ho0, hb⟩; have n0_ := Aside0.mk (Kd.R_lower ho0 (below_size (by repeat (first | (with_reducible first | exact HB.out | apply below_alloc | apply pw_below_drewN | apply below_drew1) | exact HB.out)))); have n1_ := Aside0.mk (below_step (by repeat (first | (with_reducible first | exact HB.out | apply below_alloc | apply pw_below_drewN | apply below_drew1) | exact HB.out)) hb); clear HB; have HO174 := n0_; have HB := n1_; clear n0_ n1_; (try clear hb); (try clear hb2); (try clear hk); (try clear hi); (try clear ho0); obtain ⟨Ao10, co10, eo10⟩ := Kd.R_slice HO174.out; subst eo10))
      go_ret
      exact ⟨by first | rfl | (simp [errW_none, errW_some] <;> rfl) | (simp [*, errW_none, errW_some] <;> rfl), by repeat (first | (with_reducible first | exact HB.out | apply below_alloc | apply pw_below_drewN | apply below_drew1) | exact HB.out)⟩
    · rw [if_neg c7] at H
      have c7b0 : (t169 == t171) = false := beq_eq_false_iff_ne.mpr c7
      have c7b1 : (t169 != t171) = true := bne_iff_ne.mpr c7
      obtain rfl := Option.some.inj H
      go_enter Try.func6, Try.ntmps6
      go_wp2_with (first | ((with_reducible refine gate_callee (f := 13) rfl ?_); refine goesL_ (some 10) rfl rfl Try.func13 (by kernel_rfl) rfl #[.int .u64 a0, .int .u64 a1] rfl (by (try simp only [List.map_toArray, List.map_cons, List.map_nil]); first | done | rfl | (simp only [List.length_drop, List.length_take]; rfl)) ?_; (with_reducible refine (impl_ProofSizes.calls a0 a1 t169 t170 _ A3.out).mono ?_); rintro e w' ⟨rfl, ⟨nd, rfl⟩⟩; refine ⟨_, rfl, ?_⟩) | ((with_reducible refine gate_callee (f := 14) rfl ?_); refine goesL_ (some 25) rfl rfl Try.func14 (by kernel_rfl) rfl #[.int .u64 a0, .int .u64 a1] rfl (by (try simp only [List.map_toArray, List.map_cons, List.map_nil]); first | done | rfl | (simp only [List.length_drop, List.length_take]; rfl)) ?_; (with_reducible refine (spec_Inner.calls k a0 a1 t171 _ A6.out).mono ?_); rintro e w' ⟨rfl, ⟨nd, rfl⟩⟩; refine ⟨_, rfl, ?_⟩))
      go_ret
      exact ⟨by first | rfl | (simp [errW_none, errW_some] <;> rfl) | (simp [*, errW_none, errW_some] <;> rfl), by repeat (first | (with_reducible first | exact HB.out | apply below_alloc | apply pw_below_drewN | apply below_drew1) | exact HB.out)⟩

/-- THE ONE PURE STATEMENT of laws_FnProofSizes: yours. -/
def laws_FnProofSizes.Pure : Prop := ∀ (a0 : Int) (a1 : Int), (Lit.int .u64 a0).wf = true → (Lit.int .u64 a1).wf = true → ∃ k, laws_FnProofSizes.f k a0 a1 = some true
theorem laws_FnProofSizes.walk (P : laws_FnProofSizes.Pure) (a0 : Int) (a1 : Int) (w : World) (w0 : (Lit.int .u64 a0).wf = true) (w1 : (Lit.int .u64 a1).wf = true) :
    Calls Try.prog 6 #[.int .u64 a0, .int .u64 a1] w fun e w' => e = .returned (.bool true) ∧ Below w.heap.size w w' := by
  obtain ⟨k, h⟩ := P a0 a1 w0 w1
  refine (laws_FnProofSizes.calls k a0 a1 true w h).mono ?_
  rintro e w' ⟨rfl, hd⟩
  exact ⟨rfl, hd⟩

/-! ### reedsolomon_addMod8: function 33 -/
def reedsolomon_addMod8.f (a0 : Int) (a1 : Int) : Option (Int) := some ((IntKind.u64.wrap ((IntKind.u64.wrap ((IntKind.u64.wrap (a0)) + (IntKind.u64.wrap (a1)))) + ((IntKind.u64.wrap ((IntKind.u64.wrap (a0)) + (IntKind.u64.wrap (a1)))) / 256))) % 256)
set_option maxHeartbeats 8000000 in
set_option maxRecDepth 100000 in
theorem reedsolomon_addMod8.calls (a0 : Int) (a1 : Int) (r : Int) (w : World) (h : reedsolomon_addMod8.f a0 a1 = some r) :
    Calls Try.prog 33 #[.int .u8 a0, .int .u8 a1] w fun e w' => e = .returned (.int .u8 r) ∧ Drawn0 w w' := by
  have H : (some ((IntKind.u64.wrap ((IntKind.u64.wrap ((IntKind.u64.wrap (a0)) + (IntKind.u64.wrap (a1)))) + ((IntKind.u64.wrap ((IntKind.u64.wrap (a0)) + (IntKind.u64.wrap (a1)))) / 256))) % 256)) = some r := h
  clear h
  obtain rfl := Option.some.inj H
  go_enter Try.func33, Try.ntmps33
  go_wp2
  go_ret
  exact ⟨by first | rfl | (simp; done) | (simp [*]; done), by repeat (first | exact Drawn0.refl _ | apply Drawn0.step)⟩

/-! ### reedsolomon_subMod8: function 34 -/
def reedsolomon_subMod8.f (a0 : Int) (a1 : Int) : Option (Int) := some ((IntKind.u64.wrap ((IntKind.u64.wrap ((IntKind.u64.wrap (a0)) - (IntKind.u64.wrap (a1)))) + ((IntKind.u64.wrap ((IntKind.u64.wrap (a0)) - (IntKind.u64.wrap (a1)))) / 256))) % 256)
set_option maxHeartbeats 8000000 in
set_option maxRecDepth 100000 in
theorem reedsolomon_subMod8.calls (a0 : Int) (a1 : Int) (r : Int) (w : World) (h : reedsolomon_subMod8.f a0 a1 = some r) :
    Calls Try.prog 34 #[.int .u8 a0, .int .u8 a1] w fun e w' => e = .returned (.int .u8 r) ∧ Drawn0 w w' := by
  have H : (some ((IntKind.u64.wrap ((IntKind.u64.wrap ((IntKind.u64.wrap (a0)) - (IntKind.u64.wrap (a1)))) + ((IntKind.u64.wrap ((IntKind.u64.wrap (a0)) - (IntKind.u64.wrap (a1)))) / 256))) % 256)) = some r := h
  clear h
  obtain rfl := Option.some.inj H
  go_enter Try.func34, Try.ntmps34
  go_wp2
  go_ret
  exact ⟨by first | rfl | (simp; done) | (simp [*]; done), by repeat (first | exact Drawn0.refl _ | apply Drawn0.step)⟩

/-! ### reedsolomon_fwht2alt8: function 32 -/
def reedsolomon_fwht2alt8.f (a0 : Int) (a1 : Int) : Option (Int × Int) := (reedsolomon_addMod8.f a0 a1).bind fun t175 => ((reedsolomon_subMod8.f a0 a1).bind fun t176 => (some (t175, t176)))
set_option maxHeartbeats 8000000 in
set_option maxRecDepth 100000 in
theorem reedsolomon_fwht2alt8.calls (a0 : Int) (a1 : Int) (r1 : Int) (r2 : Int) (w : World) (h : reedsolomon_fwht2alt8.f a0 a1 = some (r1, r2)) :
    Calls Try.prog 32 #[.int .u8 a0, .int .u8 a1] w fun e w' => e = .returned (.tuple #[.int .u8 r1, .int .u8 r2]) ∧ Drawn0 w w' := by
  have H : ((reedsolomon_addMod8.f a0 a1).bind fun t175 => ((reedsolomon_subMod8.f a0 a1).bind fun t176 => (some (t175, t176)))) = some (r1, r2) := h
  clear h
  replace H := Option.bind_eq_some_iff.mp H
  obtain ⟨t175, A30, H⟩ := H
  replace H : ((reedsolomon_subMod8.f a0 a1).bind fun t176 => (some (t175, t176))) = some (r1, r2) := H
  have A3 := Aside0.mk A30
  clear A30
  replace H := Option.bind_eq_some_iff.mp H
  obtain ⟨t176, A40, H⟩ := H
  replace H : (some (t175, t176)) = some (r1, r2) := H
  have A4 := Aside0.mk A40
  clear A40
  simp only [Option.some.injEq, Prod.mk.injEq] at H
  obtain ⟨rfl, rfl⟩ := H
  go_enter Try.func32, Try.ntmps32
  go_wp2_with (first | ((with_reducible refine gate_callee (f := 33) rfl ?_); refine goesL_ (some 8) rfl rfl Try.func33 (by kernel_rfl) rfl #[.int .u8 a0, .int .u8 a1] rfl (by (try simp only [List.map_toArray, List.map_cons, List.map_nil]); first | done | rfl | (simp only [List.length_drop, List.length_take]; rfl)) ?_; (with_reducible refine (reedsolomon_addMod8.calls a0 a1 t175 _ A3.out).mono ?_); rintro e w' ⟨rfl, ⟨nd, rfl⟩⟩; refine ⟨_, rfl, ?_⟩) | ((with_reducible refine gate_callee (f := 34) rfl ?_); refine goesL_ (some 11) rfl rfl Try.func34 (by kernel_rfl) rfl #[.int .u8 a0, .int .u8 a1] rfl (by (try simp only [List.map_toArray, List.map_cons, List.map_nil]); first | done | rfl | (simp only [List.length_drop, List.length_take]; rfl)) ?_; (with_reducible refine (reedsolomon_subMod8.calls a0 a1 t176 _ A4.out).mono ?_); rintro e w' ⟨rfl, ⟨nd, rfl⟩⟩; refine ⟨_, rfl, ?_⟩))
  go_ret2
  exact ⟨by first | rfl | (simp; done) | (simp [*]; done), by repeat (first | exact Drawn0.refl _ | apply Drawn0.step)⟩

-- NOT PRINTED: function 29 (reedsolomon_fwht8)

-- NOT PRINTED: function 24 (reedsolomon_DoorWalsh)

-- NOT PRINTED: function 16 (impl_Walsh)

/-! ### laws_mod: function 17 -/
def laws_mod.f (a0 : Int) : Option (Int) := some (Int.tmod (wrap64 ((Int.tmod a0 255) + 255)) 255)
set_option maxHeartbeats 8000000 in
set_option maxRecDepth 100000 in
theorem laws_mod.calls (a0 : Int) (r : Int) (w : World) (h : laws_mod.f a0 = some r) :
    Calls Try.prog 17 #[.int .i64 a0] w fun e w' => e = .returned (.int .i64 r) ∧ Drawn0 w w' := by
  have H : (some (Int.tmod (wrap64 ((Int.tmod a0 255) + 255)) 255)) = some r := h
  clear h
  obtain rfl := Option.some.inj H
  go_enter Try.func17, Try.ntmps17
  go_wp2
  go_ret
  exact ⟨by first | rfl | (simp; done) | (simp [*]; done), by repeat (first | exact Drawn0.refl _ | apply Drawn0.step)⟩

/-! ### laws_signs: function 18 -/
mutual
def laws_signs.l0 : Nat → Int → Int → List Int → Int → Int → Option (Int)
  | 0, _, _, _, _, _ => none
  | k + 1, x1, x5, x10, x11, x12 => if x12 < x11 then (if 0 ≤ x12 then (if x12 < (x10.length : Int) then (laws_signs.l1 k x1 x5 (rd x10 x12) false (Go.bits .and .i64 x12 x1) x10 x11 x12) else (none)) else (none)) else (some x5)
def laws_signs.l1 : Nat → Int → Int → Int → Bool → Int → List Int → Int → Int → Option (Int)
  | 0, _, _, _, _, _, _, _, _ => none
  | k + 1, x1, x5, x7, x8, x9, x10, x11, x12 => if x9 > 0 then (laws_signs.l1 k x1 x5 x7 (!x8) (Go.bits .and .i64 x9 (wrap64 (x9 - 1))) x10 x11 x12) else (if x8 = true then (laws_signs.l0 k x1 (wrap64 (x5 - (wrap64 (x7)))) x10 x11 (wrap64 (x12 + 1))) else (laws_signs.l0 k x1 (wrap64 (x5 + (wrap64 (x7)))) x10 x11 (wrap64 (x12 + 1))))
end
def laws_signs.f (k : Nat) (l0 : List Int) (a1 : Int) : Option (Int) := laws_signs.l0 k a1 0 l0 (l0.length : Int) 0
theorem laws_signs.mono_l : ∀ k, (∀ y0 y1 y2 y3 y4, LeO (laws_signs.l0 k y0 y1 y2 y3 y4) (laws_signs.l0 (k + 1) y0 y1 y2 y3 y4)) ∧ (∀ y0 y1 y2 y3 y4 y5 y6 y7, LeO (laws_signs.l1 k y0 y1 y2 y3 y4 y5 y6 y7) (laws_signs.l1 (k + 1) y0 y1 y2 y3 y4 y5 y6 y7))
  | 0 => ⟨fun _ _ _ _ _ r h => by simp [laws_signs.l0] at h, fun _ _ _ _ _ _ _ _ r h => by simp [laws_signs.l1] at h⟩
  | k + 1 => by
    obtain ⟨ih0, ih1⟩ := laws_signs.mono_l k
    refine ⟨?_, ?_⟩
    · intro y0 y1 y2 y3 y4
      unfold laws_signs.l0
      repeat' first
      | (with_reducible exact ih0 _ _ _ _ _)
      | (with_reducible exact ih1 _ _ _ _ _ _ _ _)
      | (with_reducible exact LeO.refl _)
      | (with_reducible exact LeO.none _)
      | (with_reducible refine LeO.ite ?_ ?_)
      | (with_reducible refine LeO.bind ?_ (fun _ => ?_))
      | exact ih0 _ _ _ _ _
      | exact ih1 _ _ _ _ _ _ _ _
      | exact LeO.none _
      | refine LeO.ite ?_ ?_
      | refine LeO.bind ?_ (fun _ => ?_)
    · intro y0 y1 y2 y3 y4 y5 y6 y7
      unfold laws_signs.l1
      repeat' first
      | (with_reducible exact ih0 _ _ _ _ _)
      | (with_reducible exact ih1 _ _ _ _ _ _ _ _)
      | (with_reducible exact LeO.refl _)
      | (with_reducible exact LeO.none _)
      | (with_reducible refine LeO.ite ?_ ?_)
      | (with_reducible refine LeO.bind ?_ (fun _ => ?_))
      | exact ih0 _ _ _ _ _
      | exact ih1 _ _ _ _ _ _ _ _
      | exact LeO.none _
      | refine LeO.ite ?_ ?_
      | refine LeO.bind ?_ (fun _ => ?_)
theorem laws_signs.mono : ∀ a0 a1 k, LeO (laws_signs.f k a0 a1) (laws_signs.f (k + 1) a0 a1) := by
  intro a0 a1 k
  obtain ⟨ih0, ih1⟩ := laws_signs.mono_l k
  unfold laws_signs.f
  repeat' first
      | (with_reducible exact ih0 _ _ _ _ _)
      | (with_reducible exact ih1 _ _ _ _ _ _ _ _)
      | (with_reducible exact LeO.refl _)
      | (with_reducible exact LeO.none _)
      | (with_reducible refine LeO.ite ?_ ?_)
      | (with_reducible refine LeO.bind ?_ (fun _ => ?_))
      | exact ih0 _ _ _ _ _
      | exact ih1 _ _ _ _ _ _ _ _
      | exact LeO.none _
      | refine LeO.ite ?_ ?_
      | refine LeO.bind ?_ (fun _ => ?_)
set_option maxHeartbeats 8000000 in
set_option maxRecDepth 100000 in
theorem laws_signs.calls (k : Nat) (A0 : Option Addr) (c0 : Nat) (l0 : List Int) (a1 : Int) (r : Int) (w : World) (hr0 : Kd.C (Kd.int .u8) w A0 l0.length l0) (hc0 : l0.length ≤ c0) (h : laws_signs.f k l0 a1 = some r) :
    Calls Try.prog 18 #[.slice A0 l0.length c0, .int .i64 a1] w fun e w' => e = .returned (.int .i64 r) ∧ Drawn0 w w' := by
  have HR0 := Aside0.mk hr0
  have HC0 := Aside0.mk hc0
  clear hr0 hc0
  have H : (laws_signs.l0 k a1 0 l0 (l0.length : Int) 0) = some r := h
  clear h
  have H' := Aside0.mk H
  clear H
  go_enter Try.func18, Try.ntmps18
  go_wp2
  go_loopg [5, 12] k (fun kq v5 v12 w' => ∃ (x5_1 : Int) (x12_1 : Int), v5 = .int .i64 x5_1 ∧ v12 = .int .i64 x12_1 ∧ Aside0 (laws_signs.l0 kq a1 x5_1 l0 (l0.length : Int) x12_1 = some r) ∧ Aside0 (kq ≤ k) ∧ Drawn0 w w')
  case atStart => exact ⟨(0), (0), (by first | rfl | (simp; done) | (simp [*]; done)), (by first | rfl | (simp; done) | (simp [*]; done)), H', ⟨Nat.le_refl _⟩, by repeat (first | exact Drawn0.refl _ | apply Drawn0.step)⟩
  case round =>
    clear H'
    try clear c1
    try clear p2
    obtain ⟨x5_1, x12_1, rfl, rfl, HA, HK1, ⟨m1, rfl⟩⟩ := hrel
    cases gk with
    | zero => exact absurd HA.out (by simp [laws_signs.l0])
    | succ k1 =>
      have H := HA.out
      clear HA
      simp only [laws_signs.l0] at H
      by_cases c3 : x12_1 < (l0.length : Int)
      · rw [if_pos c3] at H
        have c3b0 : decide (x12_1 < (l0.length : Int)) = true := decide_eq_true c3
        clear c3
        by_cases c4 : 0 ≤ x12_1
        · rw [if_pos c4] at H
          have c4b0 : decide (0 ≤ x12_1) = true := decide_eq_true c4
          clear c4
          by_cases c5 : x12_1 < (l0.length : Int)
          · rw [if_pos c5] at H
            have c5b0 : decide (x12_1 < (l0.length : Int)) = true := decide_eq_true c5
            clear c5
            have H' := Aside0.mk H
            clear H
            have p177 : 0 ≤ (x12_1 : Int) := of_decide_eq_true (by first | (with_reducible assumption) | assumption)
            have q177 : x12_1 < (l0.length : Int) := of_decide_eq_true (by first | (with_reducible assumption) | assumption)
            obtain ⟨ad177, e177, hx177_0⟩ := Kd.at_int HR0.out x12_1 p177 q177
            cases e177
            replace p177 := eq_true p177
            replace q177 := eq_true q177
            go_wp2
            go_loopg [8, 9] k1 (fun kq v8 v9 w' => ∃ (x8_2 : Bool) (x9_2 : Int), v8 = .bool x8_2 ∧ v9 = .int .i64 x9_2 ∧ Aside0 (laws_signs.l1 kq a1 x5_1 (rd l0 x12_1) x8_2 x9_2 l0 (l0.length : Int) x12_1 = some r) ∧ Aside0 (kq ≤ k1) ∧ Drawn0 w w')
            case atStart => exact ⟨(false), (Go.bits .and .i64 x12_1 a1), (by first | rfl | (simp; done) | (simp [*]; done)), (by first | rfl | (simp; done) | (simp [*]; done)), H', ⟨Nat.le_refl _⟩, by repeat (first | exact Drawn0.refl _ | apply Drawn0.step)⟩
            case round =>
              clear H'
              try clear c1
              try clear p1
              try clear q1
              try clear hx1
              try clear p2
              try clear c3
              try clear c3b0
              try clear c4
              try clear c4b0
              try clear c5
              try clear c5b0
              try clear hx177_0
              try clear p177
              try clear p2
              try clear q177
              obtain ⟨x8_2, x9_2, rfl, rfl, HA, HK2, ⟨m2, rfl⟩⟩ := hrel
              cases gk with
              | zero => exact absurd HA.out (by simp [laws_signs.l1])
              | succ k2 =>
                have H := HA.out
                clear HA
                simp only [laws_signs.l1] at H
                by_cases c6 : x9_2 > 0
                · rw [if_pos c6] at H
                  have c6b0 : decide (0 < x9_2) = true := decide_eq_true c6
                  clear c6
                  have H' := Aside0.mk H
                  clear H
                  go_wp2
                  go_roundg k2
                  case measure => have := HK1.out; have := HK2.out; omega
                  case rel => exact ⟨(!x8_2), (Go.bits .and .i64 x9_2 (wrap64 (x9_2 - 1))), (by first | rfl | (simp; done) | (simp [*]; done)), (by first | rfl | (simp; done) | (simp [*]; done)), H', ⟨by have := HK1.out; have := HK2.out; omega⟩, by repeat (first | exact Drawn0.refl _ | apply Drawn0.step)⟩
                · rw [if_neg c6] at H
                  have c6b0 : decide (0 < x9_2) = false := decide_eq_false c6
                  clear c6
                  by_cases c7 : x8_2 = true
                  · subst c7
                    have H1 : (laws_signs.l0 k2 a1 (wrap64 (x5_1 - (wrap64 ((rd l0 x12_1))))) l0 (l0.length : Int) (wrap64 (x12_1 + 1))) = some r := by rw [if_pos rfl] at H; exact H
                    clear H
                    have H := H1
                    clear H1
                    have H' := Aside0.mk H
                    clear H
                    go_wp2
                    go_roundg k2
                    case measure => have := HK1.out; have := HK2.out; omega
                    case rel => exact ⟨(wrap64 (x5_1 - (wrap64 ((rd l0 x12_1))))), (wrap64 (x12_1 + 1)), (by first | rfl | (simp; done) | (simp [*]; done)), (by first | rfl | (simp; done) | (simp [*]; done)), H', ⟨by have := HK1.out; have := HK2.out; omega⟩, by repeat (first | exact Drawn0.refl _ | apply Drawn0.step)⟩
                  · replace c7 := Bool.eq_false_iff.mpr c7
                    subst c7
                    have H1 : (laws_signs.l0 k2 a1 (wrap64 (x5_1 + (wrap64 ((rd l0 x12_1))))) l0 (l0.length : Int) (wrap64 (x12_1 + 1))) = some r := by rw [if_neg (show ¬ (false = true) by decide)] at H; exact H
                    clear H
                    have H := H1
                    clear H1
                    have H' := Aside0.mk H
                    clear H
                    go_wp2
                    go_roundg k2
                    case measure => have := HK1.out; have := HK2.out; omega
                    case rel => exact ⟨(wrap64 (x5_1 + (wrap64 ((rd l0 x12_1))))), (wrap64 (x12_1 + 1)), (by first | rfl | (simp; done) | (simp [*]; done)), (by first | rfl | (simp; done) | (simp [*]; done)), H', ⟨by have := HK1.out; have := HK2.out; omega⟩, by repeat (first | exact Drawn0.refl _ | apply Drawn0.step)⟩
          · rw [if_neg c5] at H
            exact absurd H (by simp)
        · rw [if_neg c4] at H
          exact absurd H (by simp)
      · rw [if_neg c3] at H
        have c3b0 : decide (x12_1 < (l0.length : Int)) = false := decide_eq_false c3
        clear c3
        obtain rfl := Option.some.inj H
        go_wp2
        go_ret
        exact ⟨by first | rfl | (simp; done) | (simp [*]; done), by repeat (first | exact Drawn0.refl _ | apply Drawn0.step)⟩

-- NOT PRINTED: function 7 (laws_FnWalsh)

end Go.Proofs.Ytpeikjnkbjabpaa.X
