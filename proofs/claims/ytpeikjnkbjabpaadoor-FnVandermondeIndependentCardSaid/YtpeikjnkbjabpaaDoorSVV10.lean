import Derived.Test.YtpeikjnkbjabpaaDoorSVV0
import Derived.Test.YtpeikjnkbjabpaaDoorSVV6
import Derived.Test.YtpeikjnkbjabpaaDoorSVV7
import Derived.Test.YtpeikjnkbjabpaaDoorSVV9
namespace Go.Proofs.YtpeikjnkbjabpaaDoor.V
open Go.RowKit Go.Proofs.YtpeikjnkbjabpaaDoorW.PrintWords Go.Proofs.YtpeikjnkbjabpaaDoorW.PrintLast Go.Proofs.YtpeikjnkbjabpaaDoorW.PrintMore
attribute [local go_sem] max2_int min2_int max_two min_two max_three min_three max_four min_four   -- for this text's walks alone
set_option linter.unusedVariables false
set_option linter.unusedSimpArgs false
theorem strong_ {P : Program} {md : Region.Mode} {ops : Array Oper} {Q : Exit → Act → World → Prop} {S' : World → Prop} {ds : List Nat} : ∀ (fuel : Nat) (l : Array Bool) (a : Act) (w : World), wpAnyLast P md ops Q S' ds fuel l a w → wpAnyLast P md ops Q (fun _ => True) ds fuel l a w
  | 0, _, _, _, h => h
  | fuel + 1, _, _, _, h => ⟨h.1, fun i hi => wpOp_mono (fun a' w' h' => ⟨fun _ _ => trivial, strong_ fuel _ a' w' h'.2⟩) (h.2 i hi)⟩
mutual
def laws_FnVandermondeIndependent.j0 : Nat → List Int → Bool → Option (Bool)
  | 0, _, _ => none
  | k + 1, x0, x26 => if x26 = true then (some true) else (laws_FnVandermondeIndependent.l0 k x0 x0 (x0.length : Int) 0)
def laws_FnVandermondeIndependent.l0 : Nat → List Int → List Int → Int → Int → Option (Bool)
  | 0, _, _, _, _ => none
  | k + 1, x0, x27, x28, x29 => if x29 < x28 then (if 0 ≤ x29 then (if x29 < (x27.length : Int) then (if x29 ≤ (x0.length : Int) then (laws_FnVandermondeIndependent.l1 k x0 (rd x27 x29) x27 x28 x29 (x0.take (x29 : Int).toNat) ((x0.take (x29 : Int).toNat).length : Int) 0) else (none)) else (none)) else (none)) else ((impl_Vandermonde.f k 256 (x0.length : Int)).bind fun bt239 => (if bt239.2 = true then (laws_FnVandermondeIndependent.j3 k x0 bt239.1 ((bt239.1.length : Int) != 256)) else (laws_FnVandermondeIndependent.j3 k x0 bt239.1 true)))
def laws_FnVandermondeIndependent.l1 : Nat → List Int → Int → List Int → Int → Int → List Int → Int → Int → Option (Bool)
  | 0, _, _, _, _, _, _, _, _ => none
  | k + 1, x0, x4, x27, x28, x29, x36, x37, x38 => if x38 < x37 then (if 0 ≤ x38 then (if x38 < (x36.length : Int) then (if x4 = (rd x36 x38) then (some true) else (laws_FnVandermondeIndependent.l1 k x0 x4 x27 x28 x29 x36 x37 (wrap64 (x38 + 1)))) else (none)) else (none)) else (laws_FnVandermondeIndependent.l0 k x0 x27 x28 (wrap64 (x29 + 1)))
def laws_FnVandermondeIndependent.j3 : Nat → List Int → List (List Int) → Bool → Option (Bool)
  | 0, _, _, _ => none
  | k + 1, x0, x7, x59 => if x59 = true then (some false) else (laws_FnVandermondeIndependent.l2 k x0 x7 (([] : List (List Int))) x0 (x0.length : Int) 0)
def laws_FnVandermondeIndependent.l2 : Nat → List Int → List (List Int) → List (List Int) → List Int → Int → Int → Option (Bool)
  | 0, _, _, _, _, _, _ => none
  | k + 1, x0, x7, x9, x61, x62, x63 => if x63 < x62 then (if 0 ≤ x63 then (if x63 < (x61.length : Int) then (if 0 ≤ (rd x61 x63) then (if (rd x61 x63) < (x7.length : Int) then (if x9.length < 5864062014805 then (laws_FnVandermondeIndependent.l2 k x0 x7 (x9 ++ [rd_L1 x7 (rd x61 x63)]) x61 x62 (wrap64 (x63 + 1))) else (none)) else (none)) else (none)) else (none)) else (none)) else ((impl_Invert.f k x9).bind fun bt251 => (if bt251.2 = true then (laws_FnVandermondeIndependent.j5 k x0 bt251.1 ((bt251.1.length : Int) != (x0.length : Int))) else (laws_FnVandermondeIndependent.j5 k x0 bt251.1 true)))
def laws_FnVandermondeIndependent.j5 : Nat → List Int → List (List Int) → Bool → Option (Bool)
  | 0, _, _, _ => none
  | k + 1, x0, x12, x88 => if x88 = true then (some false) else (laws_FnVandermondeIndependent.l3 k x0 x12 (x0.length : Int) 0)
def laws_FnVandermondeIndependent.l3 : Nat → List Int → List (List Int) → Int → Int → Option (Bool)
  | 0, _, _, _, _ => none
  | k + 1, x0, x12, x90, x91 => if x91 < x90 then (if 0 ≤ (x0.length : Int) then (if ((x0.length : Int) : Int).toNat ≤ 281474976710656 then ((some (List.replicate ((x0.length : Int) : Int).toNat 0 : List Int)).bind fun y255 => (if 0 ≤ x91 then (if x91 < (y255.length : Int) then ((spec_Turned.f k x12).bind fun t259 => (if x91 < (t259.length : Int) then ((spec_Interpolate.f k x0 (y255.set (x91 : Int).toNat 1)).bind fun t263 => ((laws_equalBytes.f k (rd_L1 t259 x91) t263).bind fun t266 => (if t266 = true then (laws_FnVandermondeIndependent.l3 k x0 x12 x90 (wrap64 (x91 + 1))) else (some false)))) else (none))) else (none)) else (none))) else (none)) else (none)) else (some true)
end
def laws_FnVandermondeIndependent.f (k : Nat) (l0 : List Int) : Option (Bool) := if (l0.length : Int) > 2147483647 then (some true) else (if (l0.length : Int) = 0 then (laws_FnVandermondeIndependent.j0 k l0 true) else (laws_FnVandermondeIndependent.j0 k l0 (decide ((l0.length : Int) > 16))))
theorem laws_FnVandermondeIndependent.mono_l : ∀ k, (∀ y0 y1, LeO (laws_FnVandermondeIndependent.j0 k y0 y1) (laws_FnVandermondeIndependent.j0 (k + 1) y0 y1)) ∧ (∀ y0 y1 y2 y3, LeO (laws_FnVandermondeIndependent.l0 k y0 y1 y2 y3) (laws_FnVandermondeIndependent.l0 (k + 1) y0 y1 y2 y3)) ∧ (∀ y0 y1 y2 y3 y4 y5 y6 y7, LeO (laws_FnVandermondeIndependent.l1 k y0 y1 y2 y3 y4 y5 y6 y7) (laws_FnVandermondeIndependent.l1 (k + 1) y0 y1 y2 y3 y4 y5 y6 y7)) ∧ (∀ y0 y1 y2, LeO (laws_FnVandermondeIndependent.j3 k y0 y1 y2) (laws_FnVandermondeIndependent.j3 (k + 1) y0 y1 y2)) ∧ (∀ y0 y1 y2 y3 y4 y5, LeO (laws_FnVandermondeIndependent.l2 k y0 y1 y2 y3 y4 y5) (laws_FnVandermondeIndependent.l2 (k + 1) y0 y1 y2 y3 y4 y5)) ∧ (∀ y0 y1 y2, LeO (laws_FnVandermondeIndependent.j5 k y0 y1 y2) (laws_FnVandermondeIndependent.j5 (k + 1) y0 y1 y2)) ∧ (∀ y0 y1 y2 y3, LeO (laws_FnVandermondeIndependent.l3 k y0 y1 y2 y3) (laws_FnVandermondeIndependent.l3 (k + 1) y0 y1 y2 y3))
  | 0 => ⟨fun _ _ r h => by simp [laws_FnVandermondeIndependent.j0] at h, fun _ _ _ _ r h => by simp [laws_FnVandermondeIndependent.l0] at h, fun _ _ _ _ _ _ _ _ r h => by simp [laws_FnVandermondeIndependent.l1] at h, fun _ _ _ r h => by simp [laws_FnVandermondeIndependent.j3] at h, fun _ _ _ _ _ _ r h => by simp [laws_FnVandermondeIndependent.l2] at h, fun _ _ _ r h => by simp [laws_FnVandermondeIndependent.j5] at h, fun _ _ _ _ r h => by simp [laws_FnVandermondeIndependent.l3] at h⟩
  | k + 1 => by
    obtain ⟨ih0, ih1, ih2, ih3, ih4, ih5, ih6⟩ := laws_FnVandermondeIndependent.mono_l k
    refine ⟨?_, ?_, ?_, ?_, ?_, ?_, ?_⟩
    · intro y0 y1
      unfold laws_FnVandermondeIndependent.j0
      repeat' first
      | (with_reducible exact ih0 _ _)
      | (with_reducible exact ih1 _ _ _ _)
      | (with_reducible exact ih2 _ _ _ _ _ _ _ _)
      | (with_reducible exact ih3 _ _ _)
      | (with_reducible exact ih4 _ _ _ _ _ _)
      | (with_reducible exact ih5 _ _ _)
      | (with_reducible exact ih6 _ _ _ _)
      | (with_reducible exact impl_Invert.mono _ _)
      | (with_reducible exact impl_Vandermonde.mono _ _ _)
      | (with_reducible exact laws_equalBytes.mono _ _ _)
      | (with_reducible exact spec_Interpolate.mono _ _ _)
      | (with_reducible exact spec_Turned.mono _ _)
      | (with_reducible exact LeO.refl _)
      | (with_reducible exact LeO.none _)
      | (with_reducible refine LeO.ite ?_ ?_)
      | (with_reducible refine LeO.bind ?_ (fun _ => ?_))
      | exact ih0 _ _
      | exact ih1 _ _ _ _
      | exact ih2 _ _ _ _ _ _ _ _
      | exact ih3 _ _ _
      | exact ih4 _ _ _ _ _ _
      | exact ih5 _ _ _
      | exact ih6 _ _ _ _
      | exact impl_Invert.mono _ _
      | exact impl_Vandermonde.mono _ _ _
      | exact laws_equalBytes.mono _ _ _
      | exact spec_Interpolate.mono _ _ _
      | exact spec_Turned.mono _ _
      | exact LeO.none _
      | refine LeO.ite ?_ ?_
      | refine LeO.bind ?_ (fun _ => ?_)
    · intro y0 y1 y2 y3
      unfold laws_FnVandermondeIndependent.l0
      repeat' first
      | (with_reducible exact ih0 _ _)
      | (with_reducible exact ih1 _ _ _ _)
      | (with_reducible exact ih2 _ _ _ _ _ _ _ _)
      | (with_reducible exact ih3 _ _ _)
      | (with_reducible exact ih4 _ _ _ _ _ _)
      | (with_reducible exact ih5 _ _ _)
      | (with_reducible exact ih6 _ _ _ _)
      | (with_reducible exact impl_Invert.mono _ _)
      | (with_reducible exact impl_Vandermonde.mono _ _ _)
      | (with_reducible exact laws_equalBytes.mono _ _ _)
      | (with_reducible exact spec_Interpolate.mono _ _ _)
      | (with_reducible exact spec_Turned.mono _ _)
      | (with_reducible exact LeO.refl _)
      | (with_reducible exact LeO.none _)
      | (with_reducible refine LeO.ite ?_ ?_)
      | (with_reducible refine LeO.bind ?_ (fun _ => ?_))
      | exact ih0 _ _
      | exact ih1 _ _ _ _
      | exact ih2 _ _ _ _ _ _ _ _
      | exact ih3 _ _ _
      | exact ih4 _ _ _ _ _ _
      | exact ih5 _ _ _
      | exact ih6 _ _ _ _
      | exact impl_Invert.mono _ _
      | exact impl_Vandermonde.mono _ _ _
      | exact laws_equalBytes.mono _ _ _
      | exact spec_Interpolate.mono _ _ _
      | exact spec_Turned.mono _ _
      | exact LeO.none _
      | refine LeO.ite ?_ ?_
      | refine LeO.bind ?_ (fun _ => ?_)
    · intro y0 y1 y2 y3 y4 y5 y6 y7
      unfold laws_FnVandermondeIndependent.l1
      repeat' first
      | (with_reducible exact ih0 _ _)
      | (with_reducible exact ih1 _ _ _ _)
      | (with_reducible exact ih2 _ _ _ _ _ _ _ _)
      | (with_reducible exact ih3 _ _ _)
      | (with_reducible exact ih4 _ _ _ _ _ _)
      | (with_reducible exact ih5 _ _ _)
      | (with_reducible exact ih6 _ _ _ _)
      | (with_reducible exact impl_Invert.mono _ _)
      | (with_reducible exact impl_Vandermonde.mono _ _ _)
      | (with_reducible exact laws_equalBytes.mono _ _ _)
      | (with_reducible exact spec_Interpolate.mono _ _ _)
      | (with_reducible exact spec_Turned.mono _ _)
      | (with_reducible exact LeO.refl _)
      | (with_reducible exact LeO.none _)
      | (with_reducible refine LeO.ite ?_ ?_)
      | (with_reducible refine LeO.bind ?_ (fun _ => ?_))
      | exact ih0 _ _
      | exact ih1 _ _ _ _
      | exact ih2 _ _ _ _ _ _ _ _
      | exact ih3 _ _ _
      | exact ih4 _ _ _ _ _ _
      | exact ih5 _ _ _
      | exact ih6 _ _ _ _
      | exact impl_Invert.mono _ _
      | exact impl_Vandermonde.mono _ _ _
      | exact laws_equalBytes.mono _ _ _
      | exact spec_Interpolate.mono _ _ _
      | exact spec_Turned.mono _ _
      | exact LeO.none _
      | refine LeO.ite ?_ ?_
      | refine LeO.bind ?_ (fun _ => ?_)
    · intro y0 y1 y2
      unfold laws_FnVandermondeIndependent.j3
      repeat' first
      | (with_reducible exact ih0 _ _)
      | (with_reducible exact ih1 _ _ _ _)
      | (with_reducible exact ih2 _ _ _ _ _ _ _ _)
      | (with_reducible exact ih3 _ _ _)
      | (with_reducible exact ih4 _ _ _ _ _ _)
      | (with_reducible exact ih5 _ _ _)
      | (with_reducible exact ih6 _ _ _ _)
      | (with_reducible exact impl_Invert.mono _ _)
      | (with_reducible exact impl_Vandermonde.mono _ _ _)
      | (with_reducible exact laws_equalBytes.mono _ _ _)
      | (with_reducible exact spec_Interpolate.mono _ _ _)
      | (with_reducible exact spec_Turned.mono _ _)
      | (with_reducible exact LeO.refl _)
      | (with_reducible exact LeO.none _)
      | (with_reducible refine LeO.ite ?_ ?_)
      | (with_reducible refine LeO.bind ?_ (fun _ => ?_))
      | exact ih0 _ _
      | exact ih1 _ _ _ _
      | exact ih2 _ _ _ _ _ _ _ _
      | exact ih3 _ _ _
      | exact ih4 _ _ _ _ _ _
      | exact ih5 _ _ _
      | exact ih6 _ _ _ _
      | exact impl_Invert.mono _ _
      | exact impl_Vandermonde.mono _ _ _
      | exact laws_equalBytes.mono _ _ _
      | exact spec_Interpolate.mono _ _ _
      | exact spec_Turned.mono _ _
      | exact LeO.none _
      | refine LeO.ite ?_ ?_
      | refine LeO.bind ?_ (fun _ => ?_)
    · intro y0 y1 y2 y3 y4 y5
      unfold laws_FnVandermondeIndependent.l2
      repeat' first
      | (with_reducible exact ih0 _ _)
      | (with_reducible exact ih1 _ _ _ _)
      | (with_reducible exact ih2 _ _ _ _ _ _ _ _)
      | (with_reducible exact ih3 _ _ _)
      | (with_reducible exact ih4 _ _ _ _ _ _)
      | (with_reducible exact ih5 _ _ _)
      | (with_reducible exact ih6 _ _ _ _)
      | (with_reducible exact impl_Invert.mono _ _)
      | (with_reducible exact impl_Vandermonde.mono _ _ _)
      | (with_reducible exact laws_equalBytes.mono _ _ _)
      | (with_reducible exact spec_Interpolate.mono _ _ _)
      | (with_reducible exact spec_Turned.mono _ _)
      | (with_reducible exact LeO.refl _)
      | (with_reducible exact LeO.none _)
      | (with_reducible refine LeO.ite ?_ ?_)
      | (with_reducible refine LeO.bind ?_ (fun _ => ?_))
      | exact ih0 _ _
      | exact ih1 _ _ _ _
      | exact ih2 _ _ _ _ _ _ _ _
      | exact ih3 _ _ _
      | exact ih4 _ _ _ _ _ _
      | exact ih5 _ _ _
      | exact ih6 _ _ _ _
      | exact impl_Invert.mono _ _
      | exact impl_Vandermonde.mono _ _ _
      | exact laws_equalBytes.mono _ _ _
      | exact spec_Interpolate.mono _ _ _
      | exact spec_Turned.mono _ _
      | exact LeO.none _
      | refine LeO.ite ?_ ?_
      | refine LeO.bind ?_ (fun _ => ?_)
    · intro y0 y1 y2
      unfold laws_FnVandermondeIndependent.j5
      repeat' first
      | (with_reducible exact ih0 _ _)
      | (with_reducible exact ih1 _ _ _ _)
      | (with_reducible exact ih2 _ _ _ _ _ _ _ _)
      | (with_reducible exact ih3 _ _ _)
      | (with_reducible exact ih4 _ _ _ _ _ _)
      | (with_reducible exact ih5 _ _ _)
      | (with_reducible exact ih6 _ _ _ _)
      | (with_reducible exact impl_Invert.mono _ _)
      | (with_reducible exact impl_Vandermonde.mono _ _ _)
      | (with_reducible exact laws_equalBytes.mono _ _ _)
      | (with_reducible exact spec_Interpolate.mono _ _ _)
      | (with_reducible exact spec_Turned.mono _ _)
      | (with_reducible exact LeO.refl _)
      | (with_reducible exact LeO.none _)
      | (with_reducible refine LeO.ite ?_ ?_)
      | (with_reducible refine LeO.bind ?_ (fun _ => ?_))
      | exact ih0 _ _
      | exact ih1 _ _ _ _
      | exact ih2 _ _ _ _ _ _ _ _
      | exact ih3 _ _ _
      | exact ih4 _ _ _ _ _ _
      | exact ih5 _ _ _
      | exact ih6 _ _ _ _
      | exact impl_Invert.mono _ _
      | exact impl_Vandermonde.mono _ _ _
      | exact laws_equalBytes.mono _ _ _
      | exact spec_Interpolate.mono _ _ _
      | exact spec_Turned.mono _ _
      | exact LeO.none _
      | refine LeO.ite ?_ ?_
      | refine LeO.bind ?_ (fun _ => ?_)
    · intro y0 y1 y2 y3
      unfold laws_FnVandermondeIndependent.l3
      repeat' first
      | (with_reducible exact ih0 _ _)
      | (with_reducible exact ih1 _ _ _ _)
      | (with_reducible exact ih2 _ _ _ _ _ _ _ _)
      | (with_reducible exact ih3 _ _ _)
      | (with_reducible exact ih4 _ _ _ _ _ _)
      | (with_reducible exact ih5 _ _ _)
      | (with_reducible exact ih6 _ _ _ _)
      | (with_reducible exact impl_Invert.mono _ _)
      | (with_reducible exact impl_Vandermonde.mono _ _ _)
      | (with_reducible exact laws_equalBytes.mono _ _ _)
      | (with_reducible exact spec_Interpolate.mono _ _ _)
      | (with_reducible exact spec_Turned.mono _ _)
      | (with_reducible exact LeO.refl _)
      | (with_reducible exact LeO.none _)
      | (with_reducible refine LeO.ite ?_ ?_)
      | (with_reducible refine LeO.bind ?_ (fun _ => ?_))
      | exact ih0 _ _
      | exact ih1 _ _ _ _
      | exact ih2 _ _ _ _ _ _ _ _
      | exact ih3 _ _ _
      | exact ih4 _ _ _ _ _ _
      | exact ih5 _ _ _
      | exact ih6 _ _ _ _
      | exact impl_Invert.mono _ _
      | exact impl_Vandermonde.mono _ _ _
      | exact laws_equalBytes.mono _ _ _
      | exact spec_Interpolate.mono _ _ _
      | exact spec_Turned.mono _ _
      | exact LeO.none _
      | refine LeO.ite ?_ ?_
      | refine LeO.bind ?_ (fun _ => ?_)
theorem laws_FnVandermondeIndependent.mono : ∀ a0 k, LeO (laws_FnVandermondeIndependent.f k a0) (laws_FnVandermondeIndependent.f (k + 1) a0) := by
  intro a0 k
  obtain ⟨ih0, ih1, ih2, ih3, ih4, ih5, ih6⟩ := laws_FnVandermondeIndependent.mono_l k
  unfold laws_FnVandermondeIndependent.f
  repeat' first
      | (with_reducible exact ih0 _ _)
      | (with_reducible exact ih1 _ _ _ _)
      | (with_reducible exact ih2 _ _ _ _ _ _ _ _)
      | (with_reducible exact ih3 _ _ _)
      | (with_reducible exact ih4 _ _ _ _ _ _)
      | (with_reducible exact ih5 _ _ _)
      | (with_reducible exact ih6 _ _ _ _)
      | (with_reducible exact impl_Invert.mono _ _)
      | (with_reducible exact impl_Vandermonde.mono _ _ _)
      | (with_reducible exact laws_equalBytes.mono _ _ _)
      | (with_reducible exact spec_Interpolate.mono _ _ _)
      | (with_reducible exact spec_Turned.mono _ _)
      | (with_reducible exact LeO.refl _)
      | (with_reducible exact LeO.none _)
      | (with_reducible refine LeO.ite ?_ ?_)
      | (with_reducible refine LeO.bind ?_ (fun _ => ?_))
      | exact ih0 _ _
      | exact ih1 _ _ _ _
      | exact ih2 _ _ _ _ _ _ _ _
      | exact ih3 _ _ _
      | exact ih4 _ _ _ _ _ _
      | exact ih5 _ _ _
      | exact ih6 _ _ _ _
      | exact impl_Invert.mono _ _
      | exact impl_Vandermonde.mono _ _ _
      | exact laws_equalBytes.mono _ _ _
      | exact spec_Interpolate.mono _ _ _
      | exact spec_Turned.mono _ _
      | exact LeO.none _
      | refine LeO.ite ?_ ?_
      | refine LeO.bind ?_ (fun _ => ?_)
def laws_FnVandermondeIndependent.T32 : Bool × List (List Nat × List Nat) := (true, [([], []), ([0], [0]), ([], []), ([1, 2], [1, 2]), ([3], [3]), ([], []), ([], []), ([5, 6, 1], [5, 6]), ([4, 7, 7], [4, 7]), ([8], [8])])
def laws_FnVandermondeIndependent.B32 : List Nat := [0, 1, 0, 7, 15, 0, 0, 99, 255, 511]
theorem laws_FnVandermondeIndependent.tab32 : rtab .any (opsOf Tryd.f8 32) = laws_FnVandermondeIndependent.T32 := by kernel_rfl
theorem laws_FnVandermondeIndependent.bits32 : waitsOk laws_FnVandermondeIndependent.T32.2 laws_FnVandermondeIndependent.B32 = true := by kernel_rfl
set_option maxHeartbeats 8000000 in
set_option maxRecDepth 100000 in
theorem laws_FnVandermondeIndependent.calls (k : Nat) (A0 : Option Addr) (c0 : Nat) (l0 : List Int) (r : Bool) (w : World) (hGE : GlobE w) (hGF : GlobF w) (hr0 : Kd.C (Kd.int .u8) w A0 l0.length l0) (hc0 : l0.length ≤ c0) (h : laws_FnVandermondeIndependent.f k l0 = some r) :
    Calls Tryd.prog 8 #[.slice A0 l0.length c0] w fun e w' => e = .returned (.bool r) ∧ Below w.heap.size w w' := by
  have HR0 := Aside0.mk hr0
  have HC0 := Aside0.mk hc0
  clear hr0 hc0
  have HB := Aside0.mk (Below.refl w.heap.size w)
  have H : (if (l0.length : Int) > 2147483647 then (some true) else (if (l0.length : Int) = 0 then (laws_FnVandermondeIndependent.j0 k l0 true) else (laws_FnVandermondeIndependent.j0 k l0 (decide ((l0.length : Int) > 16))))) = some r := h
  clear h
  by_cases c2 : (l0.length : Int) > 2147483647
  · rw [if_pos c2] at H
    have c2b0 : decide (2147483647 < (l0.length : Int)) = true := decide_eq_true c2
    have c2b1 : decide (2147483647 < l0.length) = true := decide_eq_true (by omega)
    clear c2
    obtain rfl := Option.some.inj H
    go_enter Tryd.func8, Tryd.ntmps8
    go_wp2
    go_ret
    exact ⟨by first | rfl | (simp [errW_none, errW_some] <;> rfl) | (simp [*, errW_none, errW_some] <;> rfl), by repeat (first | (with_reducible first | exact HB.out | apply below_alloc | apply pw_below_drewN | apply below_drew1) | exact HB.out)⟩
  · rw [if_neg c2] at H
    have c2b0 : decide (2147483647 < (l0.length : Int)) = false := decide_eq_false c2
    have c2b1 : decide (2147483647 < l0.length) = false := decide_eq_false (by omega)
    clear c2
    have HC3 := Aside0.mk H
    clear H
    go_enter Tryd.func8, Tryd.ntmps8
    go_upto_region 3 with (fail)
    go_cut [26] (fun v26 wc => ∃ (kq : Nat) (x26_2 : Bool), v26 = .bool x26_2 ∧ Aside0 (laws_FnVandermondeIndependent.j0 kq l0 x26_2 = some r) ∧ Aside0 (kq ≤ k) ∧ Aside0 (Below w.heap.size w wc))
    case first =>
      have H := HC3.out
      clear HC3
      by_cases c4 : (l0.length : Int) = 0
      · rw [if_pos c4] at H
        have c4b0 : ((l0.length : Int) == 0) = true := beq_iff_eq.mpr c4
        have c4b1 : ((l0.length : Int) != 0) = false := bne_eq_false_iff_eq.mpr c4
        clear c4
        (first | rw [c4b0] | (simp only [i64_w, i32_w]; rw [c4b0]) | skip)
        have H' := Aside0.mk H
        clear H
        go_wp2
        go_meet
        case rel => exact ⟨_, (true), (by first | rfl | (simp; done) | (simp [*]; done)), H', ⟨by first | omega | exact Nat.le_refl _⟩, ⟨by repeat (first | (with_reducible first | exact HB.out | apply below_alloc | apply pw_below_drewN | apply below_drew1) | exact HB.out)⟩⟩
      · rw [if_neg c4] at H
        have c4b0 : ((l0.length : Int) == 0) = false := beq_eq_false_iff_ne.mpr c4
        have c4b1 : ((l0.length : Int) != 0) = true := bne_iff_ne.mpr c4
        have c4b2 : ¬ (l0 = []) := fun h_ => c4 (by rw [h_]; rfl)
        (first | rw [c4b0] | (simp only [i64_w, i32_w]; rw [c4b0]) | skip)
        have H' := Aside0.mk H
        clear H
        go_wp2
        go_meet
        case rel => exact ⟨_, (decide ((l0.length : Int) > 16)), (by first | rfl | (simp; done) | (simp [*]; done)), H', ⟨by first | omega | exact Nat.le_refl _⟩, ⟨by repeat (first | (with_reducible first | exact HB.out | apply below_alloc | apply pw_below_drewN | apply below_drew1) | exact HB.out)⟩⟩
    case rest =>
      clear HC3
      try clear c2
      try clear c2b0
      try clear c2b1
      try clear p2
      try clear c4
      try clear c4b0
      try clear c4b1
      try clear c4b2
      obtain ⟨kq, x26_2, rfl, HA, HJ2, HB⟩ := hcut
      cases kq with
      | zero => exact absurd HA.out (by simp [laws_FnVandermondeIndependent.j0])
      | succ kj2 =>
        have H := HA.out
        clear HA
        simp only [laws_FnVandermondeIndependent.j0] at H
        by_cases c5 : x26_2 = true
        · subst c5
          have H1 : (some true) = some r := by rw [if_pos rfl] at H; exact H
          clear H
          have H := H1
          clear H1
          obtain rfl := Option.some.inj H
          go_wp2
          go_ret
          exact ⟨by first | rfl | (simp [errW_none, errW_some] <;> rfl) | (simp [*, errW_none, errW_some] <;> rfl), by repeat (first | (with_reducible first | exact HB.out | apply below_alloc | apply pw_below_drewN | apply below_drew1) | exact HB.out)⟩
        · replace c5 := Bool.eq_false_iff.mpr c5
          subst c5
          have H1 : (laws_FnVandermondeIndependent.l0 kj2 l0 l0 (l0.length : Int) 0) = some r := by rw [if_neg (show ¬ (false = true) by decide)] at H; exact H
          clear H
          have H := H1
          clear H1
          have H' := Aside0.mk H
          clear H
          go_wp2
          try simp only [Act.put, List.setIfInBounds_toArray, List.set_cons_zero, List.set_cons_succ]
          go_loopg [29] kj2 (fun kq v29 w' => ∃ (x29_2 : Int), v29 = .int .i64 x29_2 ∧ Aside0 (laws_FnVandermondeIndependent.l0 kq l0 l0 (l0.length : Int) x29_2 = some r) ∧ Aside0 (kq ≤ kj2) ∧ Aside0 (Below w.heap.size w w'))
          case atStart => exact ⟨(0), (by first | rfl | (simp; done) | (simp [*]; done)), H', ⟨Nat.le_refl _⟩, ⟨by repeat (first | (with_reducible first | exact HB.out | apply below_alloc | apply pw_below_drewN | apply below_drew1) | exact HB.out)⟩⟩
          case round =>
            clear H'
            try clear c2
            try clear c2b0
            try clear c2b1
            try clear p2
            try clear c4
            try clear c4b0
            try clear c4b1
            try clear c4b2
            try clear c5
            try clear p2
            obtain ⟨x29_2, rfl, HA, HK2, HB⟩ := hrel
            cases gk with
            | zero => exact absurd HA.out (by simp [laws_FnVandermondeIndependent.l0])
            | succ k2 =>
              have H := HA.out
              clear HA
              simp only [laws_FnVandermondeIndependent.l0] at H
              by_cases c6 : x29_2 < (l0.length : Int)
              · rw [if_pos c6] at H
                have c6b0 : decide (x29_2 < (l0.length : Int)) = true := decide_eq_true c6
                clear c6
                by_cases c7 : 0 ≤ x29_2
                · rw [if_pos c7] at H
                  have c7b0 : decide (0 ≤ x29_2) = true := decide_eq_true c7
                  clear c7
                  by_cases c8 : x29_2 < (l0.length : Int)
                  · rw [if_pos c8] at H
                    have c8b0 : decide (x29_2 < (l0.length : Int)) = true := decide_eq_true c8
                    clear c8
                    have c9b0 := eq_true (of_decide_eq_true (by first | (with_reducible assumption) | assumption) : 0 ≤ x29_2)
                    by_cases c10 : x29_2 ≤ (l0.length : Int)
                    · rw [if_pos c10] at H
                      have c10b0 := eq_true c10
                      have c10b1 : decide (x29_2 ≤ (l0.length : Int)) = true := decide_eq_true c10
                      clear c10
                      have H' := Aside0.mk H
                      clear H
                      have p236 : 0 ≤ (x29_2 : Int) := of_decide_eq_true (by first | (with_reducible assumption) | assumption)
                      have q236 : x29_2 < (l0.length : Int) := of_decide_eq_true (by first | (with_reducible assumption) | assumption)
                      obtain ⟨ad236, e236, hx236_0⟩ := Kd.at_int HR0.out x29_2 p236 q236
                      cases e236
                      (try replace hx236_0 := (HB.out.cell (World.block_lt_of_cell? w _ hx236_0)).trans hx236_0)
                      replace p236 := eq_true p236
                      replace q236 := eq_true q236
                      obtain ⟨i011, hi011, _, hsz11, _⟩ := info_parts info5
                      obtain ⟨hcut11, hA11, hC11⟩ := print_take_of (P := Tryd.prog) (Value.int .u8) 0 22 5 .i64 Tryd.underlying22 hi011 hsz11 (some ad236) c0 l0 x29_2 (of_decide_eq_true (by first | (with_reducible assumption) | assumption)) (of_decide_eq_true (by first | (with_reducible assumption) | assumption)) HC0.out
                      have ML11 := Aside0.mk (show ((l0.take (x29_2 : Int).toNat).length : Int) = max x29_2 0 by (have h1_ : 0 ≤ x29_2 := of_decide_eq_true (by first | (with_reducible assumption) | assumption)); (have h2_ : x29_2 ≤ (l0.length : Int) := of_decide_eq_true (by first | (with_reducible assumption) | assumption)); rw [List.length_take]; omega)
                      have HR237 := Aside0.mk (Kd.C_of_reads (h1 := fun _ => rfl) (hA11 _ (Kd.reads_of_C HR0.out)))
                      have HC237 := Aside0.mk hC11
                      clear hA11 hC11 hi011 hsz11
                      go_wp2
                      try simp only [Act.put, List.setIfInBounds_toArray, List.set_cons_zero, List.set_cons_succ]
                      go_loopg [38] k2 (fun kq v38 w' => ∃ (x38_3 : Int), v38 = .int .i64 x38_3 ∧ Aside0 (laws_FnVandermondeIndependent.l1 kq l0 (rd l0 x29_2) l0 (l0.length : Int) x29_2 (l0.take (x29_2 : Int).toNat) ((l0.take (x29_2 : Int).toNat).length : Int) x38_3 = some r) ∧ Aside0 (kq ≤ k2) ∧ Aside0 (Below w.heap.size w w'))
                      case atStart => exact ⟨(0), (by first | rfl | (simp; done) | (simp [*]; done)), H', ⟨Nat.le_refl _⟩, ⟨by repeat (first | (with_reducible first | exact HB.out | apply below_alloc | apply pw_below_drewN | apply below_drew1) | exact HB.out)⟩⟩
                      case round =>
                        clear H'
                        try clear c1
                        try clear c2
                        try clear c2b0
                        try clear c2b1
                        try clear p2
                        try clear q2
                        try clear hx2
                        try clear c4
                        try clear c4b0
                        try clear c4b1
                        try clear c4b2
                        try clear c5
                        try clear c6
                        try clear c6b0
                        try clear c7
                        try clear c7b0
                        try clear c8
                        try clear c8b0
                        try clear c9
                        try clear c9b0
                        try clear c10
                        try clear c10b0
                        try clear c10b1
                        try clear hx236_0
                        try clear p2
                        try clear p236
                        try clear q236
                        obtain ⟨x38_3, rfl, HA, HK3, HB⟩ := hrel
                        cases gk with
                        | zero => exact absurd HA.out (by simp [laws_FnVandermondeIndependent.l1])
                        | succ k3 =>
                          have H := HA.out
                          clear HA
                          simp only [laws_FnVandermondeIndependent.l1] at H
                          by_cases c12 : x38_3 < ((l0.take (x29_2 : Int).toNat).length : Int)
                          · rw [if_pos c12] at H
                            have c12b0 : decide (x38_3 < ((l0.take (x29_2 : Int).toNat).length : Int)) = true := decide_eq_true c12
                            have c12b0m : decide (x38_3 < max x29_2 0) = true := by rw [← ML11.out]; exact c12b0
                            clear c12
                            by_cases c13 : 0 ≤ x38_3
                            · rw [if_pos c13] at H
                              have c13b0 : decide (0 ≤ x38_3) = true := decide_eq_true c13
                              clear c13
                              by_cases c14 : x38_3 < ((l0.take (x29_2 : Int).toNat).length : Int)
                              · rw [if_pos c14] at H
                                have c14b0 : decide (x38_3 < ((l0.take (x29_2 : Int).toNat).length : Int)) = true := decide_eq_true c14
                                have c14b0m : decide (x38_3 < max x29_2 0) = true := by rw [← ML11.out]; exact c14b0
                                clear c14
                                by_cases c15 : (rd l0 x29_2) = (rd (l0.take (x29_2 : Int).toNat) x38_3)
                                · rw [if_pos c15] at H
                                  have c15b0 : ((rd l0 x29_2) == (rd (l0.take (x29_2 : Int).toNat) x38_3)) = true := beq_iff_eq.mpr c15
                                  have c15b1 : ((rd l0 x29_2) != (rd (l0.take (x29_2 : Int).toNat) x38_3)) = false := bne_eq_false_iff_eq.mpr c15
                                  clear c15
                                  obtain rfl := Option.some.inj H
                                  have p238 : 0 ≤ (x38_3 : Int) := of_decide_eq_true (by first | (with_reducible assumption) | assumption)
                                  have q238 : x38_3 < ((l0.take (x29_2 : Int).toNat).length : Int) := of_decide_eq_true (by first | (with_reducible assumption) | assumption)
                                  obtain ⟨ad238, e238, hx238_0⟩ := Kd.at_int HR237.out x38_3 p238 q238
                                  obtain rfl : ad236 = ad238 := (by injection e238)
                                  (try replace hx238_0 := (HB.out.cell (World.block_lt_of_cell? w _ hx238_0)).trans hx238_0)
                                  replace p238 := eq_true p238
                                  replace q238 := eq_true q238
                                  have q238m : (x38_3 < max x29_2 0) = True := by rw [← ML11.out]; exact q238
                                  go_wp2
                                  go_ret
                                  exact ⟨by first | rfl | (simp [errW_none, errW_some] <;> rfl) | (simp [*, errW_none, errW_some] <;> rfl), by repeat (first | (with_reducible first | exact HB.out | apply below_alloc | apply pw_below_drewN | apply below_drew1) | exact HB.out)⟩
                                · rw [if_neg c15] at H
                                  have c15b0 : ((rd l0 x29_2) == (rd (l0.take (x29_2 : Int).toNat) x38_3)) = false := beq_eq_false_iff_ne.mpr c15
                                  have c15b1 : ((rd l0 x29_2) != (rd (l0.take (x29_2 : Int).toNat) x38_3)) = true := bne_iff_ne.mpr c15
                                  have H' := Aside0.mk H
                                  clear H
                                  have p238 : 0 ≤ (x38_3 : Int) := of_decide_eq_true (by first | (with_reducible assumption) | assumption)
                                  have q238 : x38_3 < ((l0.take (x29_2 : Int).toNat).length : Int) := of_decide_eq_true (by first | (with_reducible assumption) | assumption)
                                  obtain ⟨ad238, e238, hx238_0⟩ := Kd.at_int HR237.out x38_3 p238 q238
                                  obtain rfl : ad236 = ad238 := (by injection e238)
                                  (try replace hx238_0 := (HB.out.cell (World.block_lt_of_cell? w _ hx238_0)).trans hx238_0)
                                  replace p238 := eq_true p238
                                  replace q238 := eq_true q238
                                  have q238m : (x38_3 < max x29_2 0) = True := by rw [← ML11.out]; exact q238
                                  go_wp2
                                  go_roundg k3
                                  case measure => have := HJ2.out; have := HK2.out; have := HK3.out; omega
                                  case rel => exact ⟨(wrap64 (x38_3 + 1)), (by first | rfl | (simp; done) | (simp [*]; done)), H', ⟨by have := HJ2.out; have := HK2.out; have := HK3.out; omega⟩, ⟨by repeat (first | (with_reducible first | exact HB.out | apply below_alloc | apply pw_below_drewN | apply below_drew1) | exact HB.out)⟩⟩
                              · rw [if_neg c14] at H
                                exact absurd H (by simp)
                            · rw [if_neg c13] at H
                              exact absurd H (by simp)
                          · rw [if_neg c12] at H
                            have c12b0 : decide (x38_3 < ((l0.take (x29_2 : Int).toNat).length : Int)) = false := decide_eq_false c12
                            have c12b0m : decide (x38_3 < max x29_2 0) = false := by rw [← ML11.out]; exact c12b0
                            clear c12
                            have H' := Aside0.mk H
                            clear H
                            go_wp2
                            go_roundg k3
                            case measure => have := HJ2.out; have := HK2.out; have := HK3.out; omega
                            case rel => exact ⟨(wrap64 (x29_2 + 1)), (by first | rfl | (simp; done) | (simp [*]; done)), H', ⟨by have := HJ2.out; have := HK2.out; have := HK3.out; omega⟩, ⟨by repeat (first | (with_reducible first | exact HB.out | apply below_alloc | apply pw_below_drewN | apply below_drew1) | exact HB.out)⟩⟩
                    · rw [if_neg c10] at H
                      exact absurd H (by simp)
                  · rw [if_neg c8] at H
                    exact absurd H (by simp)
                · rw [if_neg c7] at H
                  exact absurd H (by simp)
              · rw [if_neg c6] at H
                have c6b0 : decide (x29_2 < (l0.length : Int)) = false := decide_eq_false c6
                clear c6
                replace H := Option.bind_eq_some_iff.mp H
                obtain ⟨⟨t239, t240⟩, A160, H⟩ := H
                replace H : (if t240 = true then (laws_FnVandermondeIndependent.j3 k2 l0 t239 ((t239.length : Int) != 256)) else (laws_FnVandermondeIndependent.j3 k2 l0 t239 true)) = some r := H
                have A16 := Aside0.mk A160
                clear A160
                have HC17 := Aside0.mk H
                clear H
                go_upto_region 16 with (first | ((with_reducible refine gate_callee (f := 26) rfl ?_); refine goesL_ (some 50) rfl rfl Tryd.func26 (by kernel_rfl) rfl #[.int .i64 256, .int .i64 (l0.length : Int)] rfl (by (try simp only [List.map_toArray, List.map_cons, List.map_nil]); first | done | rfl | (simp only [List.length_drop, List.length_take]; rfl)) ?_; (with_reducible refine (impl_Vandermonde.calls k2 256 (l0.length : Int) t239 t240 _ ?side1 ?side2 A16.out).mono ?_); (case side1 => exact GlobE.below hGE (by repeat (first | (with_reducible first | exact HB.out | apply below_alloc | apply pw_below_drewN | apply below_drew1) | exact HB.out))); (case side2 => exact GlobF.below hGF (by repeat (first | (with_reducible first | exact HB.out | apply below_alloc | apply pw_below_drewN | apply below_drew1) | exact HB.out))); rintro e w18 ⟨v241, rfl, ho0, hb⟩; refine ⟨_, rfl, ?_⟩; have n0_ := Aside0.mk (Kd.N_lower (Kd.N_mono (ok' := fun k_ => True) (Kd.S_N (Kd.S_bound ho0)) (fun k_ hk_ => trivial)) (below_size (by repeat (first | (with_reducible first | exact HB.out | apply below_alloc | apply pw_below_drewN | apply below_drew1) | exact HB.out)))); have n1_ := Aside0.mk (below_step (by repeat (first | (with_reducible first | exact HB.out | apply below_alloc | apply pw_below_drewN | apply below_drew1) | exact HB.out)) hb); clear HB; have HO242 := n0_; have HB := n1_; clear n0_ n1_; (try clear hb); (try clear hb2); (try clear hk); (try clear hi); (try clear ho0)))
                (try simp only [Act.put, List.setIfInBounds_toArray, List.set_cons_zero, List.set_cons_succ])
                go_cut [59] (fun v59 wc => ∃ (kq : Nat) (x59_16 : Bool), v59 = .bool x59_16 ∧ Aside0 (laws_FnVandermondeIndependent.j3 kq l0 t239 x59_16 = some r) ∧ Aside0 (kq ≤ k2) ∧ Aside0 (Kd.N (Kd.slice 5 (Kd.int .u8)) 22 wc w.heap.size (fun _ => True) v241 t239) ∧ Aside0 (Below w.heap.size w wc))
                case first =>
                  have H := HC17.out
                  clear HC17
                  by_cases c19 : t240 = true
                  · subst c19
                    have H1 : (laws_FnVandermondeIndependent.j3 k2 l0 t239 ((t239.length : Int) != 256)) = some r := by rw [if_pos rfl] at H; exact H
                    clear H
                    have H := H1
                    clear H1
                    have H' := Aside0.mk H
                    clear H
                    obtain ⟨Ao20, co20, eo20⟩ := Kd.N_slice HO242.out
                    subst eo20
                    go_wp2
                    go_meet
                    case rel => exact ⟨_, (((t239.length : Int) != 256)), (by first | rfl | (simp; done) | (simp [*]; done)), H', ⟨by have := HJ2.out; have := HK2.out; first | omega | exact Nat.le_refl _⟩, ⟨by (with_reducible repeat (first | apply Kd.N_alloc | apply Kd.N_drewN | apply Kd.N_drew)); exact HO242.out⟩, ⟨by repeat (first | (with_reducible first | exact HB.out | apply below_alloc | apply pw_below_drewN | apply below_drew1) | exact HB.out)⟩⟩
                  · replace c19 := Bool.eq_false_iff.mpr c19
                    subst c19
                    have H1 : (laws_FnVandermondeIndependent.j3 k2 l0 t239 true) = some r := by rw [if_neg (show ¬ (false = true) by decide)] at H; exact H
                    clear H
                    have H := H1
                    clear H1
                    have H' := Aside0.mk H
                    clear H
                    go_wp2
                    go_meet
                    case rel => exact ⟨_, (true), (by first | rfl | (simp; done) | (simp [*]; done)), H', ⟨by have := HJ2.out; have := HK2.out; first | omega | exact Nat.le_refl _⟩, ⟨by (with_reducible repeat (first | apply Kd.N_alloc | apply Kd.N_drewN | apply Kd.N_drew)); exact HO242.out⟩, ⟨by repeat (first | (with_reducible first | exact HB.out | apply below_alloc | apply pw_below_drewN | apply below_drew1) | exact HB.out)⟩⟩
                case rest =>
                  clear HC17
                  try clear c1
                  try clear c2
                  try clear c2b0
                  try clear c2b1
                  try clear p2
                  try clear q2
                  try clear hx2
                  try clear c4
                  try clear c4b0
                  try clear c4b1
                  try clear c4b2
                  try clear c5
                  try clear c6
                  try clear c6b0
                  try clear p6
                  try clear c7
                  try clear c7b0
                  try clear c8
                  try clear c8b0
                  try clear c9
                  try clear c9b0
                  try clear c10
                  try clear c10b0
                  try clear c10b1
                  try clear c12
                  try clear c12b0
                  try clear c13
                  try clear c13b0
                  try clear c14
                  try clear c14b0
                  try clear c15
                  try clear c15b0
                  try clear c15b1
                  try clear c19
                  try clear hx236_0
                  try clear hx238_0
                  try clear p2
                  try clear p236
                  try clear p238
                  try clear q2
                  try clear q236
                  try clear q238
                  obtain ⟨kq, x59_16, rfl, HA, HJ16, HO_7, HB⟩ := hcut
                  cases kq with
                  | zero => exact absurd HA.out (by simp [laws_FnVandermondeIndependent.j3])
                  | succ kj16 =>
                    have H := HA.out
                    clear HA
                    simp only [laws_FnVandermondeIndependent.j3] at H
                    by_cases c21 : x59_16 = true
                    · subst c21
                      have H1 : (some false) = some r := by rw [if_pos rfl] at H; exact H
                      clear H
                      have H := H1
                      clear H1
                      obtain rfl := Option.some.inj H
                      go_wp2
                      go_ret
                      exact ⟨by first | rfl | (simp [errW_none, errW_some] <;> rfl) | (simp [*, errW_none, errW_some] <;> rfl), by repeat (first | (with_reducible first | exact HB.out | apply below_alloc | apply pw_below_drewN | apply below_drew1) | exact HB.out)⟩
                    · replace c21 := Bool.eq_false_iff.mpr c21
                      subst c21
                      have H1 : (laws_FnVandermondeIndependent.l2 kj16 l0 t239 (([] : List (List Int))) l0 (l0.length : Int) 0) = some r := by rw [if_neg (show ¬ (false = true) by decide)] at H; exact H
                      clear H
                      have H := H1
                      clear H1
                      obtain ⟨y243, hy243⟩ : ∃ y_ : List (List Int), y_ = (([] : List (List Int))) := ⟨_, rfl⟩
                      replace H : (laws_FnVandermondeIndependent.l2 kj16 l0 t239 y243 l0 (l0.length : Int) 0) = some r := by first | (rw [hy243]; with_reducible exact H) | (have H2_ := (Option.bind_some _ _).symm.trans H; rw [hy243]; with_reducible exact H2_) | (have H2_ := (Option.bind_some _ _).symm.trans H; with_reducible exact H2_) | with_reducible exact H | (rw [hy243]; exact H) | exact H
                      have Ny243 := Aside0.mk hy243
                      clear hy243
                      have H' := Aside0.mk H
                      clear H
                      go_wp2_with (first | ((with_reducible refine gate_dst (N := 60) rfl ?_); (try (refine gate_guard (by rfl) ?_; dsimp only)); refine Kd.N_lit (Kd.slice 5 (Kd.int .u8)) _ 22 ?hg (N' := 60) ?hd (xs := ([] : List (List Int))) (inner := []) (ok := (fun k_ => some k_ ≠ (v241 : Value).ownBlock)) (okp := (fun k_ => some k_ ≠ (v241 : Value).ownBlock)) ?hr ?hp (fun _ hk => hk) ((show ∀ k_, wc.heap.size ≤ k_ → (fun k_ => some k_ ≠ (v241 : Value).ownBlock) k_ from fun k_ hk => Kd.fresh' (Kd.N_lt (by (with_reducible repeat (first | apply Kd.N_alloc | apply Kd.N_drewN | apply Kd.N_drew)); exact HO_7.out)) k_ hk) _ (Nat.le_refl _)) (Below.refl _ _) (Nat.le_refl _) (by simp) ?_; (case hd => rfl); (case hg => rfl); (case hr => first | (go_simp; done) | (go_simp; rfl)); (case hp => exact (Reps.none _ _)); intro v244 w22 ho23 hb hg_ hnew_; clear hg_ hnew_; (first | rw [← Ny243.out] at ho23 | (simp only [Int.reduceToNat] at ho23; rw [← Ny243.out] at ho23)); have n0_ := Aside0.mk (Kd.N_elder' (by (with_reducible repeat (first | apply Kd.N_alloc | apply Kd.N_drewN | apply Kd.N_drew)); exact HO_7.out) (by first | exact Kd.N_base ho23 | exact Kd.S_base ho23 | exact Kd.N_base (Kd.S_N (Kd.S_bound ho23))) hb); have n1_ := Aside0.mk (Kd.N_lower ho23 (below_size (by repeat (first | (with_reducible first | exact HB.out | apply below_alloc | apply pw_below_drewN | apply below_drew1) | exact HB.out)))); have n2_ := Aside0.mk (below_step (by repeat (first | (with_reducible first | exact HB.out | apply below_alloc | apply pw_below_drewN | apply below_drew1) | exact HB.out)) hb); clear HO_7; clear HB; have HO_7 := n0_; have HO245 := n1_; have HB := n2_; clear n0_ n1_ n2_; clear hb ho23))
                      try simp only [Act.put, List.setIfInBounds_toArray, List.set_cons_zero, List.set_cons_succ]
                      go_loopg [9, 63] kj16 (fun kq v9 v63 w' => ∃ (x9_4 : List (List Int)) (x63_4 : Int), v63 = .int .i64 x63_4 ∧ Aside0 (laws_FnVandermondeIndependent.l2 kq l0 t239 x9_4 l0 (l0.length : Int) x63_4 = some r) ∧ Aside0 (kq ≤ kj16) ∧ Aside0 (Kd.N (Kd.slice 5 (Kd.int .u8)) 22 w' w.heap.size (fun k_ => some k_ ≠ (v9 : Value).ownBlock) v241 t239) ∧ Aside0 (Kd.N (Kd.slice 5 (Kd.int .u8)) 22 w' w.heap.size (fun k_ => some k_ ≠ (v241 : Value).ownBlock) v9 x9_4) ∧ Aside0 (Below w.heap.size w w'))
                      case atStart => exact ⟨(y243), (0), (by first | rfl | (simp; done) | (simp [*]; done)), H', ⟨Nat.le_refl _⟩, ⟨by (with_reducible repeat (first | apply Kd.N_alloc | apply Kd.N_drewN | apply Kd.N_drew)); exact Kd.N_mono HO_7.out (fun _ hk => hk.2)⟩, ⟨by (with_reducible repeat (first | apply Kd.N_alloc | apply Kd.N_drewN | apply Kd.N_drew)); exact HO245.out⟩, ⟨by repeat (first | (with_reducible first | exact HB.out | apply below_alloc | apply pw_below_drewN | apply below_drew1) | exact HB.out)⟩⟩
                      case round =>
                        clear H'
                        try clear c1
                        try clear c2
                        try clear c2b0
                        try clear c2b1
                        try clear p2
                        try clear q2
                        try clear hx2
                        try clear c4
                        try clear c4b0
                        try clear c4b1
                        try clear c4b2
                        try clear c5
                        try clear c6
                        try clear c6b0
                        try clear p6
                        try clear c7
                        try clear c7b0
                        try clear c8
                        try clear c8b0
                        try clear c9
                        try clear c9b0
                        try clear c10
                        try clear c10b0
                        try clear c10b1
                        try clear c12
                        try clear c12b0
                        try clear c13
                        try clear c13b0
                        try clear c14
                        try clear c14b0
                        try clear c15
                        try clear c15b0
                        try clear c15b1
                        try clear c19
                        try clear c21
                        try clear p23
                        try clear q23
                        try clear hx23
                        try clear hx236_0
                        try clear hx238_0
                        try clear p2
                        try clear p236
                        try clear p238
                        try clear p6
                        try clear q2
                        try clear q236
                        try clear q238
                        obtain ⟨x9_4, x63_4, rfl, HA, HK4, HO_7, HO_9, HB⟩ := hrel
                        cases gk with
                        | zero => exact absurd HA.out (by simp [laws_FnVandermondeIndependent.l2])
                        | succ k4 =>
                          have H := HA.out
                          clear HA
                          simp only [laws_FnVandermondeIndependent.l2] at H
                          by_cases c24 : x63_4 < (l0.length : Int)
                          · rw [if_pos c24] at H
                            have c24b0 : decide (x63_4 < (l0.length : Int)) = true := decide_eq_true c24
                            clear c24
                            by_cases c25 : 0 ≤ x63_4
                            · rw [if_pos c25] at H
                              have c25b0 : decide (0 ≤ x63_4) = true := decide_eq_true c25
                              clear c25
                              by_cases c26 : x63_4 < (l0.length : Int)
                              · rw [if_pos c26] at H
                                have c26b0 : decide (x63_4 < (l0.length : Int)) = true := decide_eq_true c26
                                clear c26
                                by_cases c27 : 0 ≤ (rd l0 x63_4)
                                · rw [if_pos c27] at H
                                  have c27b0 : decide (0 ≤ (rd l0 x63_4)) = true := decide_eq_true c27
                                  clear c27
                                  by_cases c28 : (rd l0 x63_4) < (t239.length : Int)
                                  · rw [if_pos c28] at H
                                    have c28b0 : decide ((rd l0 x63_4) < (t239.length : Int)) = true := decide_eq_true c28
                                    clear c28
                                    by_cases c29 : x9_4.length < 5864062014805
                                    · rw [if_pos c29] at H
                                      have LMc29 := Aside0.mk c29
                                      clear c29
                                      obtain ⟨y248, hy248⟩ : ∃ y_ : List (List Int), y_ = (x9_4 ++ [rd_L1 t239 (rd l0 x63_4)]) := ⟨_, rfl⟩
                                      replace H : (laws_FnVandermondeIndependent.l2 k4 l0 t239 y248 l0 (l0.length : Int) (wrap64 (x63_4 + 1))) = some r := by first | (rw [hy248]; with_reducible exact H) | (have H2_ := (Option.bind_some _ _).symm.trans H; rw [hy248]; with_reducible exact H2_) | (have H2_ := (Option.bind_some _ _).symm.trans H; with_reducible exact H2_) | with_reducible exact H | (rw [hy248]; exact H) | exact H
                                      have Ny248 := Aside0.mk hy248
                                      clear hy248
                                      have H' := Aside0.mk H
                                      clear H
                                      have p246 : 0 ≤ (x63_4 : Int) := of_decide_eq_true (by first | (with_reducible assumption) | assumption)
                                      have q246 : x63_4 < (l0.length : Int) := of_decide_eq_true (by first | (with_reducible assumption) | assumption)
                                      obtain ⟨ad246, e246, hx246_0⟩ := Kd.at_int HR0.out x63_4 p246 q246
                                      cases e246
                                      (try replace hx246_0 := (HB.out.cell (World.block_lt_of_cell? w _ hx246_0)).trans hx246_0)
                                      replace p246 := eq_true p246
                                      replace q246 := eq_true q246
                                      obtain ⟨Ao30, co30, eo30⟩ := Kd.N_slice HO_7.out
                                      subst eo30
                                      have p247 : 0 ≤ ((rd l0 x63_4) : Int) := of_decide_eq_true (by first | (with_reducible assumption) | assumption)
                                      have q247 : (rd l0 x63_4) < (t239.length : Int) := of_decide_eq_true (by first | (with_reducible assumption) | assumption)
                                      obtain ⟨ad247, A247_0, c247_0, e247, hx247_0, hl247_0, hi247_0⟩ := at_L1 (Kd.N_reads' HO_7.out).2.2 (rd l0 x63_4) p247 q247
                                      cases e247
                                      obtain ⟨ce247, hce247, hMe247, hcc247⟩ := Kd.N_get HO_7.out [] (rd l0 x63_4) p247 (by first | exact q247 | exact of_decide_eq_true (by first | (with_reducible assumption) | assumption) | (have e_ := (Kd.N_reads' HO_7.out).1; omega))
                                      obtain ⟨ua247_0, uc247_0, rfl, ul247_0, ge247_0⟩ := Kd.FK_slice_open hMe247
                                      have hv247_0 := hcc247 0 _ rfl
                                      rw [Nat.add_zero, show ((Kd.slice 5 (Kd.int .u8))).sz = 1 from rfl, Nat.mul_one] at hv247_0
                                      replace hv247_0 := Option.some.inj (hv247_0.symm.trans hx247_0)
                                      injection hv247_0 with hva_ hvn_ hvc_
                                      rw [hva_] at ge247_0
                                      rw [hvc_] at ul247_0
                                      have HL247_0 := Aside0.mk (show Kd.V (Kd.int .u8) 5 _ w.heap.size _ _ (rd_L1 t239 (rd l0 x63_4)) from Kd.V_mk ul247_0 ge247_0)
                                      clear hva_ hvn_ hvc_ ge247_0 ul247_0
                                      clear hcc247 hce247
                                      have HR247_0 := Aside0.mk hi247_0
                                      have HC247_0 := Aside0.mk hl247_0
                                      clear hi247_0 hl247_0
                                      replace p247 := eq_true p247
                                      replace q247 := eq_true q247
                                      go_wp2_with (first | ((with_reducible refine gate_builtin (b := .append) (xs := #[.tmp 67, .tmp 72]) rfl ?_); (try (refine gate_guard (by rfl) ?_; dsimp only)); at_builtin; refine Kd.N_append (Kd.slice 5 (Kd.int .u8)) (w0 := w) w.heap.size rfl (.tmp 67) (.tmp 72) 30 22 (.slice none 0 0) 24 rfl Tryd.underlying30 info22 rfl (by decide) (by omega) u9 x9_4 (rd_L1 t239 (rd l0 x63_4)) [.slice A247_0 (rd_L1 t239 (rd l0 x63_4)).length c247_0] (fun k_ => some k_ ≠ (.slice (some ad247) t239.length co30 : Value).ownBlock) (fun k_ => ((fun k_ => some k_ ≠ (.slice (some ad247) t239.length co30 : Value).ownBlock)) k_ ∧ some k_ ≠ (u9 : Value).ownBlock) rfl rfl ?aP (fun _ hk => hk) ?aF ?aO ?aB ?aS ?aL ?_; (case aP => exact (Kd.FK_slice_mk (Kd.V_reads' (Kd.V_mono (ok' := (fun k_ => ((fun k_ => some k_ ≠ (.slice (some ad247) t239.length co30 : Value).ownBlock)) k_ ∧ some k_ ≠ (u9 : Value).ownBlock)) (HL247_0.out) (fun k_ hk => ⟨hk.2, hk.1⟩))).2.1 (Kd.V_F (Kd.V_mono (ok' := (fun k_ => ((fun k_ => some k_ ≠ (.slice (some ad247) t239.length co30 : Value).ownBlock)) k_ ∧ some k_ ≠ (u9 : Value).ownBlock)) (HL247_0.out) (fun k_ hk => ⟨hk.2, hk.1⟩))))); (case aB => exact (by repeat (first | (with_reducible first | exact HB.out | apply below_alloc | apply pw_below_drewN | apply below_drew1) | exact HB.out))); (case aF => exact (fun k_ hk => Kd.fresh' (Kd.N_lt (by (with_reducible repeat (first | apply Kd.N_alloc | apply Kd.N_drewN | apply Kd.N_drew)); exact HO_7.out)) k_ hk)); (case aO => exact (by (with_reducible repeat (first | apply Kd.N_alloc | apply Kd.N_drewN | apply Kd.N_drew)); exact HO_9.out)); (case aS => exact (below_size (by repeat (first | (with_reducible first | exact HB.out | apply below_alloc | apply pw_below_drewN | apply below_drew1) | exact HB.out)))); (case aL => have := LMc29.out; omega); intro v249 w31 ho hb hg hat; rw [← Ny248.out] at ho; have n0_ := Aside0.mk (Kd.N_afterv (ok := (fun _ => True)) (by (with_reducible repeat (first | apply Kd.N_alloc | apply Kd.N_drewN | apply Kd.N_drew)); exact Kd.N_mono HO_7.out (fun _ hk => ⟨trivial, hk⟩)) hg hat); have n1_ := Aside0.mk (Kd.V_afterv (ok := (fun k_ => some k_ ≠ (.slice (some ad247) t239.length co30 : Value).ownBlock)) (by (with_reducible repeat (first | apply Kd.V_alloc | apply Kd.V_drewN | apply Kd.V_drew)); exact Kd.V_mono HL247_0.out (fun _ hk => ⟨hk.2, hk.1⟩)) hg hat); have n2_ := Aside0.mk (hb); have n3_ := Aside0.mk (ho); clear HO_7; clear HL247_0; clear HB; clear HO_9; have HO_7 := n0_; have HL247_0 := n1_; have HB := n2_; have HO250 := n3_; clear n0_ n1_ n2_ n3_; clear ho hb hg hat))
                                      go_roundg k4
                                      case measure => have := HJ2.out; have := HK2.out; have := HJ16.out; have := HK4.out; omega
                                      case rel => exact ⟨(y248), (wrap64 (x63_4 + 1)), (by first | rfl | (simp; done) | (simp [*]; done)), H', ⟨by have := HJ2.out; have := HK2.out; have := HJ16.out; have := HK4.out; omega⟩, ⟨by (with_reducible repeat (first | apply Kd.N_alloc | apply Kd.N_drewN | apply Kd.N_drew)); exact Kd.N_mono HO_7.out (fun _ hk => hk.2)⟩, ⟨by (with_reducible repeat (first | apply Kd.N_alloc | apply Kd.N_drewN | apply Kd.N_drew)); exact HO250.out⟩, ⟨by repeat (first | (with_reducible first | exact HB.out | apply below_alloc | apply pw_below_drewN | apply below_drew1) | exact HB.out)⟩⟩
                                    · rw [if_neg c29] at H
                                      exact absurd H (by simp)
                                  · rw [if_neg c28] at H
                                    exact absurd H (by simp)
                                · rw [if_neg c27] at H
                                  exact absurd H (by simp)
                              · rw [if_neg c26] at H
                                exact absurd H (by simp)
                            · rw [if_neg c25] at H
                              exact absurd H (by simp)
                          · rw [if_neg c24] at H
                            have c24b0 : decide (x63_4 < (l0.length : Int)) = false := decide_eq_false c24
                            clear c24
                            replace H := Option.bind_eq_some_iff.mp H
                            obtain ⟨⟨t251, t252⟩, A320, H⟩ := H
                            replace H : (if t252 = true then (laws_FnVandermondeIndependent.j5 k4 l0 t251 ((t251.length : Int) != (l0.length : Int))) else (laws_FnVandermondeIndependent.j5 k4 l0 t251 true)) = some r := H
                            have A32 := Aside0.mk A320
                            clear A320
                            have HC33 := Aside0.mk H
                            clear H
                            obtain ⟨Ao34, co34, eo34⟩ := Kd.N_slice HO_9.out
                            subst eo34
                            go_upto_region 25 with (first | ((with_reducible refine gate_callee (f := 22) rfl ?_); refine goesL_ (some 77) rfl rfl Tryd.func22 (by kernel_rfl) rfl #[.slice Ao34 x9_4.length co34] rfl (by (try simp only [List.map_toArray, List.map_cons, List.map_nil]); first | done | rfl | (simp only [List.length_drop, List.length_take]; rfl)) ?_; (with_reducible refine (impl_Invert.calls k4 _ _ x9_4 t251 t252 _ ?side3 ?side4 ?side1 ?side2 A32.out).mono ?_); (case side1 => repeat (first | exact (Kd.N_reads' HO_9.out).2.2 | (with_reducible refine Kd.C_alloc ?_ _) | (with_reducible refine Kd.C_drewN ?_ _) | (with_reducible refine Kd.C_drew ?_))); (case side2 => exact (Kd.N_reads' HO_9.out).2.1); (case side3 => exact GlobE.below hGE (by repeat (first | (with_reducible first | exact HB.out | apply below_alloc | apply pw_below_drewN | apply below_drew1) | exact HB.out))); (case side4 => exact GlobF.below hGF (by repeat (first | (with_reducible first | exact HB.out | apply below_alloc | apply pw_below_drewN | apply below_drew1) | exact HB.out))); rintro e w35 ⟨v253, rfl, ho0, hb⟩; refine ⟨_, rfl, ?_⟩; have n0_ := Aside0.mk (Kd.N_elder' (by (with_reducible repeat (first | apply Kd.N_alloc | apply Kd.N_drewN | apply Kd.N_drew)); exact HO_7.out) (by first | exact Kd.N_base ho0 | exact Kd.S_base ho0 | exact Kd.N_base (Kd.S_N (Kd.S_bound ho0))) hb); have n1_ := Aside0.mk (Kd.N_elder' (by (with_reducible repeat (first | apply Kd.N_alloc | apply Kd.N_drewN | apply Kd.N_drew)); exact HO_9.out) (by first | exact Kd.N_base ho0 | exact Kd.S_base ho0 | exact Kd.N_base (Kd.S_N (Kd.S_bound ho0))) hb); have n2_ := Aside0.mk (Kd.N_lower (Kd.N_mono (ok' := fun k_ => some k_ ≠ (v241 : Value).ownBlock ∧ some k_ ≠ (.slice Ao34 x9_4.length co34 : Value).ownBlock) (Kd.S_N (Kd.S_bound ho0)) (fun k_ hk_ => ⟨(Kd.fresh' (Kd.N_lt (by (with_reducible repeat (first | apply Kd.N_alloc | apply Kd.N_drewN | apply Kd.N_drew)); exact HO_7.out)) k_ hk_.2.1), (Kd.fresh' (Kd.N_lt (by (with_reducible repeat (first | apply Kd.N_alloc | apply Kd.N_drewN | apply Kd.N_drew)); exact HO_9.out)) k_ hk_.2.1)⟩)) (below_size (by repeat (first | (with_reducible first | exact HB.out | apply below_alloc | apply pw_below_drewN | apply below_drew1) | exact HB.out)))); have n3_ := Aside0.mk (below_step (by repeat (first | (with_reducible first | exact HB.out | apply below_alloc | apply pw_below_drewN | apply below_drew1) | exact HB.out)) hb); clear HO_7; clear HO_9; clear HB; have HO_7 := n0_; have HO_9 := n1_; have HO254 := n2_; have HB := n3_; clear n0_ n1_ n2_ n3_; (try clear hb); (try clear hb2); (try clear hk); (try clear hi); (try clear ho0)))
                            (try simp only [Act.put, List.setIfInBounds_toArray, List.set_cons_zero, List.set_cons_succ])
                            go_cut [88] (fun v88 wc => ∃ (kq : Nat) (x88_32 : Bool), v88 = .bool x88_32 ∧ Aside0 (laws_FnVandermondeIndependent.j5 kq l0 t251 x88_32 = some r) ∧ Aside0 (kq ≤ k4) ∧ Aside0 (Kd.N (Kd.slice 5 (Kd.int .u8)) 22 wc w.heap.size (fun _ => True) v253 t251) ∧ Aside0 (Below w.heap.size w wc))
                            case first =>
                              have H := HC33.out
                              clear HC33
                              by_cases c36 : t252 = true
                              · subst c36
                                have H1 : (laws_FnVandermondeIndependent.j5 k4 l0 t251 ((t251.length : Int) != (l0.length : Int))) = some r := by rw [if_pos rfl] at H; exact H
                                clear H
                                have H := H1
                                clear H1
                                have H' := Aside0.mk H
                                clear H
                                obtain ⟨Ao37, co37, eo37⟩ := Kd.N_slice HO254.out
                                subst eo37
                                go_wp2
                                go_meet
                                case rel => exact ⟨_, (((t251.length : Int) != (l0.length : Int))), (by first | rfl | (simp; done) | (simp [*]; done)), H', ⟨by have := HJ2.out; have := HK2.out; have := HJ16.out; have := HK4.out; first | omega | exact Nat.le_refl _⟩, ⟨by (with_reducible repeat (first | apply Kd.N_alloc | apply Kd.N_drewN | apply Kd.N_drew)); exact Kd.N_mono HO254.out (fun _ hk => trivial)⟩, ⟨by repeat (first | (with_reducible first | exact HB.out | apply below_alloc | apply pw_below_drewN | apply below_drew1) | exact HB.out)⟩⟩
                              · replace c36 := Bool.eq_false_iff.mpr c36
                                subst c36
                                have H1 : (laws_FnVandermondeIndependent.j5 k4 l0 t251 true) = some r := by rw [if_neg (show ¬ (false = true) by decide)] at H; exact H
                                clear H
                                have H := H1
                                clear H1
                                have H' := Aside0.mk H
                                clear H
                                go_wp2
                                go_meet
                                case rel => exact ⟨_, (true), (by first | rfl | (simp; done) | (simp [*]; done)), H', ⟨by have := HJ2.out; have := HK2.out; have := HJ16.out; have := HK4.out; first | omega | exact Nat.le_refl _⟩, ⟨by (with_reducible repeat (first | apply Kd.N_alloc | apply Kd.N_drewN | apply Kd.N_drew)); exact Kd.N_mono HO254.out (fun _ hk => trivial)⟩, ⟨by repeat (first | (with_reducible first | exact HB.out | apply below_alloc | apply pw_below_drewN | apply below_drew1) | exact HB.out)⟩⟩
                            case rest =>
                              clear HC33
                              try clear c1
                              try clear c2
                              try clear c2b0
                              try clear c2b1
                              try clear p2
                              try clear q2
                              try clear hx2
                              try clear c3
                              try clear c4
                              try clear c4b0
                              try clear c4b1
                              try clear c4b2
                              try clear c5
                              try clear c6
                              try clear c6b0
                              try clear p6
                              try clear c7
                              try clear c7b0
                              try clear c8
                              try clear c8b0
                              try clear c9
                              try clear c9b0
                              try clear c10
                              try clear c10b0
                              try clear c10b1
                              try clear c12
                              try clear c12b0
                              try clear c13
                              try clear c13b0
                              try clear c14
                              try clear c14b0
                              try clear c15
                              try clear c15b0
                              try clear c15b1
                              try clear c19
                              try clear c21
                              try clear c22
                              try clear p23
                              try clear q23
                              try clear hx23
                              try clear c24
                              try clear c24b0
                              try clear p24
                              try clear q24
                              try clear hx24
                              try clear c25
                              try clear c25b0
                              try clear c26
                              try clear c26b0
                              try clear c27
                              try clear c27b0
                              try clear c28
                              try clear c28b0
                              try clear c29
                              try clear c36
                              try clear hx236_0
                              try clear hx238_0
                              try clear hx246_0
                              try clear hx247_0
                              try clear p2
                              try clear p23
                              try clear p236
                              try clear p238
                              try clear p246
                              try clear p247
                              try clear p6
                              try clear q2
                              try clear q23
                              try clear q236
                              try clear q238
                              try clear q246
                              try clear q247
                              obtain ⟨kq, x88_32, rfl, HA, HJ32, HO_12, HB⟩ := hcut
                              cases kq with
                              | zero => exact absurd HA.out (by simp [laws_FnVandermondeIndependent.j5])
                              | succ kj32 =>
                                have H := HA.out
                                clear HA
                                simp only [laws_FnVandermondeIndependent.j5] at H
                                by_cases c38 : x88_32 = true
                                · subst c38
                                  have H1 : (some false) = some r := by rw [if_pos rfl] at H; exact H
                                  clear H
                                  have H := H1
                                  clear H1
                                  obtain rfl := Option.some.inj H
                                  go_wp2
                                  go_ret
                                  exact ⟨by first | rfl | (simp [errW_none, errW_some] <;> rfl) | (simp [*, errW_none, errW_some] <;> rfl), by repeat (first | (with_reducible first | exact HB.out | apply below_alloc | apply pw_below_drewN | apply below_drew1) | exact HB.out)⟩
                                · replace c38 := Bool.eq_false_iff.mpr c38
                                  subst c38
                                  have H1 : (laws_FnVandermondeIndependent.l3 kj32 l0 t251 (l0.length : Int) 0) = some r := by rw [if_neg (show ¬ (false = true) by decide)] at H; exact H
                                  clear H
                                  have H := H1
                                  clear H1
                                  have H' := Aside0.mk H
                                  clear H
                                  go_wp2
                                  try simp only [Act.put, List.setIfInBounds_toArray, List.set_cons_zero, List.set_cons_succ]
                                  go_loopg [91] kj32 (fun kq v91 w' => ∃ (x91_6 : Int), v91 = .int .i64 x91_6 ∧ Aside0 (laws_FnVandermondeIndependent.l3 kq l0 t251 (l0.length : Int) x91_6 = some r) ∧ Aside0 (kq ≤ kj32) ∧ Aside0 (Kd.N (Kd.slice 5 (Kd.int .u8)) 22 w' w.heap.size (fun _ => True) v253 t251) ∧ Aside0 (Below w.heap.size w w'))
                                  case atStart => exact ⟨(0), (by first | rfl | (simp; done) | (simp [*]; done)), H', ⟨Nat.le_refl _⟩, ⟨by (with_reducible repeat (first | apply Kd.N_alloc | apply Kd.N_drewN | apply Kd.N_drew)); exact HO_12.out⟩, ⟨by repeat (first | (with_reducible first | exact HB.out | apply below_alloc | apply pw_below_drewN | apply below_drew1) | exact HB.out)⟩⟩
                                  case round =>
                                    clear H'
                                    try clear c1
                                    try clear c2
                                    try clear c2b0
                                    try clear c2b1
                                    try clear p2
                                    try clear q2
                                    try clear hx2
                                    try clear c3
                                    try clear c4
                                    try clear c4b0
                                    try clear c4b1
                                    try clear c4b2
                                    try clear c5
                                    try clear c6
                                    try clear c6b0
                                    try clear p6
                                    try clear c7
                                    try clear c7b0
                                    try clear c8
                                    try clear c8b0
                                    try clear c9
                                    try clear c9b0
                                    try clear c10
                                    try clear c10b0
                                    try clear c10b1
                                    try clear c12
                                    try clear c12b0
                                    try clear c13
                                    try clear c13b0
                                    try clear c14
                                    try clear c14b0
                                    try clear c15
                                    try clear c15b0
                                    try clear c15b1
                                    try clear c19
                                    try clear c21
                                    try clear c22
                                    try clear p23
                                    try clear q23
                                    try clear hx23
                                    try clear c24
                                    try clear c24b0
                                    try clear p24
                                    try clear q24
                                    try clear hx24
                                    try clear c25
                                    try clear c25b0
                                    try clear c26
                                    try clear c26b0
                                    try clear c27
                                    try clear c27b0
                                    try clear c28
                                    try clear c28b0
                                    try clear c29
                                    try clear c36
                                    try clear c38
                                    try clear hx236_0
                                    try clear hx238_0
                                    try clear hx246_0
                                    try clear hx247_0
                                    try clear p2
                                    try clear p23
                                    try clear p236
                                    try clear p238
                                    try clear p24
                                    try clear p246
                                    try clear p247
                                    try clear p6
                                    try clear q2
                                    try clear q23
                                    try clear q236
                                    try clear q238
                                    try clear q24
                                    try clear q246
                                    try clear q247
                                    obtain ⟨x91_6, rfl, HA, HK6, HO_12, HB⟩ := hrel
                                    cases gk with
                                    | zero => exact absurd HA.out (by simp [laws_FnVandermondeIndependent.l3])
                                    | succ k6 =>
                                      have H := HA.out
                                      clear HA
                                      simp only [laws_FnVandermondeIndependent.l3] at H
                                      by_cases c39 : x91_6 < (l0.length : Int)
                                      · rw [if_pos c39] at H
                                        have c39b0 : decide (x91_6 < (l0.length : Int)) = true := decide_eq_true c39
                                        clear c39
                                        by_cases c40 : 0 ≤ (l0.length : Int)
                                        · rw [if_pos c40] at H
                                          have c40b0 := eq_true c40
                                          have c40b1 : decide (0 ≤ (l0.length : Int)) = true := decide_eq_true c40
                                          clear c40
                                          by_cases c41 : ((l0.length : Int) : Int).toNat ≤ 281474976710656
                                          · rw [if_pos c41] at H
                                            have c41b0 := eq_true c41
                                            have c41b1 : decide (((l0.length : Int) : Int).toNat ≤ 281474976710656) = true := decide_eq_true c41
                                            clear c41
                                            obtain ⟨y255, hy255⟩ : ∃ y_ : List Int, y_ = (List.replicate ((l0.length : Int) : Int).toNat 0) := ⟨_, rfl⟩
                                            replace H : (if 0 ≤ x91_6 then (if x91_6 < (y255.length : Int) then ((spec_Turned.f k6 t251).bind fun t259 => (if x91_6 < (t259.length : Int) then ((spec_Interpolate.f k6 l0 (y255.set (x91_6 : Int).toNat 1)).bind fun t263 => ((laws_equalBytes.f k6 (rd_L1 t259 x91_6) t263).bind fun t266 => (if t266 = true then (laws_FnVandermondeIndependent.l3 k6 l0 t251 (l0.length : Int) (wrap64 (x91_6 + 1))) else (some false)))) else (none))) else (none)) else (none)) = some r := by first | (rw [hy255]; with_reducible exact H) | (have H2_ := (Option.bind_some _ _).symm.trans H; rw [hy255]; with_reducible exact H2_) | (have H2_ := (Option.bind_some _ _).symm.trans H; with_reducible exact H2_) | with_reducible exact H | (rw [hy255]; exact H) | exact H
                                            have Ny255 := Aside0.mk hy255
                                            clear hy255
                                            by_cases c42 : 0 ≤ x91_6
                                            · rw [if_pos c42] at H
                                              have c42b0 : decide (0 ≤ x91_6) = true := decide_eq_true c42
                                              clear c42
                                              by_cases c43 : x91_6 < (y255.length : Int)
                                              · rw [if_pos c43] at H
                                                have c43b0 : decide (x91_6 < (y255.length : Int)) = true := decide_eq_true c43
                                                clear c43
                                                obtain ⟨y258, hy258⟩ : ∃ y_ : List Int, y_ = (y255.set (x91_6 : Int).toNat 1) := ⟨_, rfl⟩
                                                replace H : ((spec_Turned.f k6 t251).bind fun t259 => (if x91_6 < (t259.length : Int) then ((spec_Interpolate.f k6 l0 y258).bind fun t263 => ((laws_equalBytes.f k6 (rd_L1 t259 x91_6) t263).bind fun t266 => (if t266 = true then (laws_FnVandermondeIndependent.l3 k6 l0 t251 (l0.length : Int) (wrap64 (x91_6 + 1))) else (some false)))) else (none))) = some r := by first | (rw [hy258]; with_reducible exact H) | (have H2_ := (Option.bind_some _ _).symm.trans H; rw [hy258]; with_reducible exact H2_) | (have H2_ := (Option.bind_some _ _).symm.trans H; with_reducible exact H2_) | with_reducible exact H | (rw [hy258]; exact H) | exact H
                                                have Ny258 := Aside0.mk hy258
                                                clear hy258
                                                replace H := Option.bind_eq_some_iff.mp H
                                                obtain ⟨t259, A450, H⟩ := H
                                                replace H : (if x91_6 < (t259.length : Int) then ((spec_Interpolate.f k6 l0 y258).bind fun t263 => ((laws_equalBytes.f k6 (rd_L1 t259 x91_6) t263).bind fun t266 => (if t266 = true then (laws_FnVandermondeIndependent.l3 k6 l0 t251 (l0.length : Int) (wrap64 (x91_6 + 1))) else (some false)))) else (none)) = some r := H
                                                have A45 := Aside0.mk A450
                                                clear A450
                                                by_cases c46 : x91_6 < (t259.length : Int)
                                                · rw [if_pos c46] at H
                                                  have c46b0 : decide (x91_6 < (t259.length : Int)) = true := decide_eq_true c46
                                                  clear c46
                                                  replace H := Option.bind_eq_some_iff.mp H
                                                  obtain ⟨t263, A470, H⟩ := H
                                                  replace H : ((laws_equalBytes.f k6 (rd_L1 t259 x91_6) t263).bind fun t266 => (if t266 = true then (laws_FnVandermondeIndependent.l3 k6 l0 t251 (l0.length : Int) (wrap64 (x91_6 + 1))) else (some false))) = some r := H
                                                  have A47 := Aside0.mk A470
                                                  clear A470
                                                  replace H := Option.bind_eq_some_iff.mp H
                                                  obtain ⟨t266, A480, H⟩ := H
                                                  replace H : (if t266 = true then (laws_FnVandermondeIndependent.l3 k6 l0 t251 (l0.length : Int) (wrap64 (x91_6 + 1))) else (some false)) = some r := H
                                                  have A48 := Aside0.mk A480
                                                  clear A480
                                                  by_cases c49 : t266 = true
                                                  · subst c49
                                                    have H1 : (laws_FnVandermondeIndependent.l3 k6 l0 t251 (l0.length : Int) (wrap64 (x91_6 + 1))) = some r := by rw [if_pos rfl] at H; exact H
                                                    clear H
                                                    have H := H1
                                                    clear H1
                                                    have H' := Aside0.mk H
                                                    clear H
                                                    try go_wp2_with (first | ((with_reducible refine gate_dst (N := 96) rfl ?_); (try (refine gate_guard (by rfl) ?_; dsimp only)); refine Kd.R_make (Kd.int .u8) _ 5 rfl (N := 96) rfl 22 _ _ rfl (l0.length : Int) rfl rfl Tryd.underlying22 (.int .u8 0) 1 info5 rfl (by decide) (by omega) 0 (ok := fun _ => True) (okp := fun _ => True) rfl (fun _ hk => hk) trivial (of_decide_eq_true (by first | (with_reducible assumption) | assumption)) (Nat.le_trans (Nat.mul_le_mul_right _ (of_decide_eq_true (by first | (with_reducible assumption) | assumption) : (l0.length : Int).toNat ≤ 281474976710656)) (by omega)) (Below.refl _ _) (Nat.le_refl _) ?_; intro v256 w50 ho51 hb hg_ hnew_; clear hg_ hnew_; (first | rw [← Ny255.out] at ho51 | (simp only [Int.reduceToNat] at ho51; rw [← Ny255.out] at ho51)); have n0_ := Aside0.mk (Kd.N_elder' (by (with_reducible repeat (first | apply Kd.N_alloc | apply Kd.N_drewN | apply Kd.N_drew)); exact HO_12.out) (Kd.R_base ho51) hb); have n1_ := Aside0.mk (Kd.R_lower ho51 (below_size (by repeat (first | (with_reducible first | exact HB.out | apply below_alloc | apply pw_below_drewN | apply below_drew1) | exact HB.out)))); have n2_ := Aside0.mk (below_step (by repeat (first | (with_reducible first | exact HB.out | apply below_alloc | apply pw_below_drewN | apply below_drew1) | exact HB.out)) hb); clear HO_12; clear HB; have HO_12 := n0_; have HO257 := n1_; have HB := n2_; clear n0_ n1_ n2_; clear hb ho51; have p44 : 0 ≤ (x91_6 : Int) := of_decide_eq_true (by first | (with_reducible assumption) | assumption); have q44 : (x91_6 : Int) < ((y255.length : Int) : Int) := of_decide_eq_true (by first | (with_reducible assumption) | assumption); obtain ⟨go44, co44, eo44, gb44, gl44, cl44, HG44⟩ := Kd.R_form HO257.out (by omega); (first | cases eo44 | (injection eo44 with ea_ en_ ec_; (first | subst ea_ | (injection ea_ with ea_; subst ea_)); subst ec_; clear en_)); have GB44 := Aside0.mk gb44; have GG44 := Aside0.mk HG44; clear gb44 gl44 HG44; obtain ⟨hx44_0, hf44_0⟩ := Kd.R_celln 0 HO257.out (x91_6 : Int) p44 q44; replace p44 := eq_true p44; replace q44 := eq_true q44; obtain ⟨hy52_, hz52_⟩ := Kd.R_celln 0 HO257.out (x91_6 : Int) (of_decide_eq_true (by first | (with_reducible assumption) | assumption)) (of_decide_eq_true (by first | (with_reducible assumption) | assumption)); have HP52 := Kd.R_putg HO257.out (x91_6 : Int) 1) | ((with_reducible refine gate_store (t := 5) (p := 99) rfl ?_); refine store_event (t := 5) (p := 99) (v := ?vo_w53) (w1 := (w50.setCell ⟨go44, (x91_6 : Int).toNat, none⟩ (.int .u8 1))) ?hg ?ho ?hn ?hr ?_; (case ho => rfl); (case hg => rfl); (case hn => rfl); (case hr => first | (go_simp; done) | (go_simp; rfl)); intro w53 hw; have hg : w50.grownBy w53 (some go44) := (by rw [hw]; exact HP52.2); have hp_ : Kd.R (Kd.int .u8) 5 w53 w.heap.size (fun _ => True) (.slice (some ⟨go44, 0, none⟩) y255.length co44) y258 := (by rw [hw, Ny258.out]; exact HP52.1); clear HP52; have n0_ := Aside0.mk (Kd.N_afterv (v := (.slice (some ⟨go44, 0, none⟩) y255.length co44)) (v1 := (.slice (some ⟨go44, 0, none⟩) y255.length co44)) (ok := (fun _ => True)) (by (with_reducible repeat (first | apply Kd.N_alloc | apply Kd.N_drewN | apply Kd.N_drew)); exact HO_12.out) hg (.inl rfl)); have n1_ := Aside0.mk (hp_); have n2_ := Aside0.mk ((by rw [hw]; exact below_set (HB.out) GB44.out : Below w.heap.size w w53)); clear HO_12; clear HO257; clear HB; have HO_12 := n0_; have HO257 := n1_; have HB := n2_; clear n0_ n1_ n2_; clear hg hw hp_))
                                                    have n0_ := Aside0.mk (Kd.N_drew HO_12.out)
                                                    have n1_ := Aside0.mk (Kd.R_drew HO257.out)
                                                    have n2_ := Aside0.mk (below_drew1 HB.out)
                                                    clear HO_12
                                                    clear HO257
                                                    clear HB
                                                    have HO_12 := n0_
                                                    have HO257 := n1_
                                                    have HB := n2_
                                                    clear n0_ n1_ n2_
                                                    obtain ⟨Ao55, co55, eo55⟩ := Kd.N_slice HO_12.out
                                                    (first | subst eo55 | (injection eo55 with f1_ f2_ f3_; have f4_ := f1_.symm; have f5_ := f3_.symm; clear f1_ f2_ f3_; subst f4_; subst f5_))
                                                    refine start_ (n := 10) (S := fun w' => True) (ds := []) #[false, false, false, false, false, false, false, false, false, false] (by kernel_rfl) rfl rfl trivial (fun hHeld => ?_); refine with_tabW laws_FnVandermondeIndependent.tab32 laws_FnVandermondeIndependent.bits32 (fun HT_ HW_ => ?_)
                                                    generalize w53.drew = w54 at HO_12 HO257 HB hHeld ⊢
                                                    refine pure_ (i := 0) (N := some 100) (v := ?_) (a' := ?_) #[true, false, false, false, false, false, false, false, false, false] rfl rfl (any_of HT_.out (by kernel_rfl)) (fun _ _ _ h => h) (Or.inl ⟨by rfl, ?_⟩) ?_ ?_
                                                    rotate_left
                                                    · intro w'
                                                      go_simp
                                                      with_reducible rfl
                                                    rotate_left
                                                    · simp only [Act.put, List.setIfInBounds_toArray, List.set_cons_zero, List.set_cons_succ, i64_w, i32_w]
                                                      rfl
                                                    refine pure_ (i := 2) (N := some 102) (v := ?_) (a' := ?_) #[true, false, true, false, false, false, false, false, false, false] rfl rfl (any_of HT_.out (by kernel_rfl)) (fun _ _ _ h => h) (Or.inl ⟨by rfl, ?_⟩) ?_ ?_
                                                    rotate_left
                                                    · intro w'
                                                      go_simp
                                                      with_reducible rfl
                                                    rotate_left
                                                    · simp only [Act.put, List.setIfInBounds_toArray, List.set_cons_zero, List.set_cons_succ, i64_w, i32_w]
                                                      rfl
                                                    refine pure_ (i := 5) (N := some 105) (v := ?_) (a' := ?_) #[true, false, true, false, false, true, false, false, false, false] rfl rfl (any_of HT_.out (by kernel_rfl)) (fun _ _ _ h => h) (Or.inl ⟨by rfl, ?_⟩) ?_ ?_
                                                    rotate_left
                                                    · intro w'
                                                      go_simp
                                                      with_reducible rfl
                                                    rotate_left
                                                    · simp only [Act.put, List.setIfInBounds_toArray, List.set_cons_zero, List.set_cons_succ, i64_w, i32_w]
                                                      rfl
                                                    refine pure_ (i := 6) (N := some 106) (v := ?_) (a' := ?_) #[true, false, true, false, false, true, true, false, false, false] rfl rfl (any_of HT_.out (by kernel_rfl)) (fun _ _ _ h => h) (Or.inl ⟨by rfl, ?_⟩) ?_ ?_
                                                    rotate_left
                                                    · intro w'
                                                      go_simp
                                                      with_reducible rfl
                                                    rotate_left
                                                    · simp only [Act.put, List.setIfInBounds_toArray, List.set_cons_zero, List.set_cons_succ, i64_w, i32_w]
                                                      rfl
                                                    refine one_ (i := 1) (N := some 101) #[true, true, true, false, false, true, true, false, false, false] rfl rfl (one_of HT_.out (by kernel_rfl)) (by decide) (fun K hK => ?_)
                                                    refine goes_ Tryd.func28 (by kernel_rfl) rfl #[.slice Ao55 t251.length co55] (by rfl) rfl rfl (by (try simp only [List.map_toArray, List.map_cons, List.map_nil]); first | done | rfl | (simp only [List.length_drop, List.length_take]; rfl)) ?_
                                                    with_reducible refine (spec_Turned.calls k6 _ _ t251 t259 _ ?side1 ?side2 A45.out).mono ?_
                                                    (case side1 => repeat (first | exact (Kd.N_reads' HO_12.out).2.2 | (with_reducible refine Kd.C_alloc ?_ _) | (with_reducible refine Kd.C_drewN ?_ _) | (with_reducible refine Kd.C_drew ?_)))
                                                    (case side2 => exact (Kd.N_reads' HO_12.out).2.1)
                                                    rintro e w56 ⟨v260, rfl, ho0, hb⟩
                                                    have HS0_ : True := trivial
                                                    refine ⟨_, rfl, ?_⟩
                                                    have n0_ := Aside0.mk (Kd.N_elder' (by (with_reducible repeat (first | apply Kd.N_alloc | apply Kd.N_drewN | apply Kd.N_drew)); exact HO_12.out) (by first | exact Kd.N_base ho0 | exact Kd.S_base ho0 | exact Kd.N_base (Kd.S_N (Kd.S_bound ho0))) hb)
                                                    have n1_ := Aside0.mk (Kd.R_below (by (with_reducible repeat (first | apply Kd.R_alloc | apply Kd.R_drewN | apply Kd.R_drew)); exact HO257.out) hb)
                                                    have n2_ := Aside0.mk (Kd.N_lower (Kd.N_mono (ok' := fun k_ => some k_ ≠ (.slice Ao55 t251.length co55 : Value).ownBlock ∧ some k_ ≠ (.slice (some ⟨go44, 0, none⟩) y255.length co44 : Value).ownBlock) (Kd.S_N (Kd.S_bound ho0)) (fun k_ hk_ => ⟨(Kd.fresh' (Kd.N_lt (by (with_reducible repeat (first | apply Kd.N_alloc | apply Kd.N_drewN | apply Kd.N_drew)); exact HO_12.out)) k_ hk_.2.1), (Kd.fresh' (Kd.R_lt (by (with_reducible repeat (first | apply Kd.R_alloc | apply Kd.R_drewN | apply Kd.R_drew)); exact HO257.out)) k_ hk_.2.1)⟩)) (below_size (by repeat (first | (with_reducible first | exact HB.out | apply below_alloc | apply pw_below_drewN | apply below_drew1) | exact HB.out))))
                                                    have n3_ := Aside0.mk (below_step (by repeat (first | (with_reducible first | exact HB.out | apply below_alloc | apply pw_below_drewN | apply below_drew1) | exact HB.out)) hb)
                                                    clear HO_12
                                                    clear HO257
                                                    clear HB
                                                    have HO_12 := n0_
                                                    have HO257 := n1_
                                                    have HO261 := n2_
                                                    have HB := n3_
                                                    clear n0_ n1_ n2_ n3_
                                                    (try clear hb)
                                                    (try clear hb2)
                                                    (try clear hk)
                                                    (try clear hi)
                                                    (try clear ho0)
                                                    obtain ⟨Ao57, co57, eo57⟩ := Kd.N_slice HO261.out
                                                    (first | subst eo57 | (injection eo57 with f1_ f2_ f3_; have f4_ := f1_.symm; have f5_ := f3_.symm; clear f1_ f2_ f3_; subst f4_; subst f5_))
                                                    have p262 : 0 ≤ (x91_6 : Int) := of_decide_eq_true (by first | (with_reducible assumption) | assumption)
                                                    have q262 : x91_6 < (t259.length : Int) := of_decide_eq_true (by first | (with_reducible assumption) | assumption)
                                                    obtain ⟨ad262, A262_0, c262_0, e262, hx262_0, hl262_0, hi262_0⟩ := at_L1 (Kd.N_reads' HO261.out).2.2 x91_6 p262 q262
                                                    cases e262
                                                    obtain ⟨ce262, hce262, hMe262, hcc262⟩ := Kd.N_get HO261.out [] x91_6 p262 (by first | exact q262 | exact of_decide_eq_true (by first | (with_reducible assumption) | assumption) | (have e_ := (Kd.N_reads' HO261.out).1; omega))
                                                    obtain ⟨ua262_0, uc262_0, rfl, ul262_0, ge262_0⟩ := Kd.FK_slice_open hMe262
                                                    have hv262_0 := hcc262 0 _ rfl
                                                    rw [Nat.add_zero, show ((Kd.slice 5 (Kd.int .u8))).sz = 1 from rfl, Nat.mul_one] at hv262_0
                                                    replace hv262_0 := Option.some.inj (hv262_0.symm.trans hx262_0)
                                                    injection hv262_0 with hva_ hvn_ hvc_
                                                    rw [hva_] at ge262_0
                                                    rw [hvc_] at ul262_0
                                                    have HL262_0 := Aside0.mk (show Kd.V (Kd.int .u8) 5 _ w.heap.size _ _ (rd_L1 t259 x91_6) from Kd.V_mk ul262_0 ge262_0)
                                                    clear hva_ hvn_ hvc_ ge262_0 ul262_0
                                                    clear hcc262 hce262
                                                    have HR262_0 := Aside0.mk hi262_0
                                                    have HC262_0 := Aside0.mk hl262_0
                                                    clear hi262_0 hl262_0
                                                    replace p262 := eq_true p262
                                                    replace q262 := eq_true q262
                                                    refine hK.out _ _ (HS0_) (fun hHeld => ?_)
                                                    clear hK K
                                                    refine norm_ (a' := ?_) ?_ ?_
                                                    rotate_left
                                                    · show Act.put _ (some 101) _ = _
                                                      simp only [Act.put, List.setIfInBounds_toArray, List.set_cons_zero, List.set_cons_succ, i64_w, i32_w]
                                                      rfl
                                                    refine strong_ (S' := fun w' => w'.cell? (ad262.add (x91_6).toNat) = some (.slice A262_0 (rd_L1 t259 x91_6).length c262_0)) _ _ _ _ ?_
                                                    clear hHeld
                                                    have hHeld := hx262_0
                                                    refine pure_ (i := 3) (N := some 103) (v := ?_) (a' := ?_) #[true, true, true, true, false, true, true, false, false, false] rfl rfl (any_of HT_.out (by kernel_rfl)) (fun _ _ _ h => h) (Or.inl ⟨by rfl, ?_⟩) ?_ ?_
                                                    rotate_left
                                                    · intro w'
                                                      go_simp
                                                      with_reducible rfl
                                                    rotate_left
                                                    · simp only [Act.put, List.setIfInBounds_toArray, List.set_cons_zero, List.set_cons_succ, i64_w, i32_w]
                                                      rfl
                                                    refine take_ (i := 4) (N := some 104) (v := ?_) (a' := ?_) #[true, true, true, true, true, true, true, false, false, false] rfl rfl (take_ofW HT_.out HW_.out (by kernel_rfl)) (fun _ _ _ h => h) (Or.inl ⟨by rfl, ?_⟩) hHeld ?_ ?_
                                                    rotate_left
                                                    · intro w' s0
                                                      go_simp
                                                      with_reducible rfl
                                                    rotate_left
                                                    · simp only [Act.put, List.setIfInBounds_toArray, List.set_cons_zero, List.set_cons_succ, i64_w, i32_w]
                                                      rfl
                                                    refine one_ (i := 7) (N := some 107) #[true, true, true, true, true, true, true, true, false, false] rfl rfl (one_of HT_.out (by kernel_rfl)) (by decide) (fun K hK => ?_)
                                                    refine goes_ Tryd.func29 (by kernel_rfl) rfl #[.slice A0 l0.length c0, .slice (some ⟨go44, 0, none⟩) y258.length co44] (by rfl) rfl rfl (by (try simp only [List.map_toArray, List.map_cons, List.map_nil]); first | done | (rw [show y258.length = y255.length from (Kd.R_reads' HO257.out).1.symm] <;> rfl) | rfl | (simp only [List.length_drop, List.length_take]; rfl)) ?_
                                                    with_reducible refine (spec_Interpolate.calls k6 _ _ l0 _ _ y258 t263 _ ?side1 ?side2 ?side3 ?side4 A47.out).mono ?_
                                                    (case side1 => repeat (first | exact (Kd.C_below HR0.out HB.out) | (with_reducible refine Kd.C_alloc ?_ _) | (with_reducible refine Kd.C_drewN ?_ _) | (with_reducible refine Kd.C_drew ?_)))
                                                    (case side2 => exact HC0.out)
                                                    (case side3 => repeat (first | exact (Kd.R_reads' HO257.out).2.2 | (with_reducible refine Kd.C_alloc ?_ _) | (with_reducible refine Kd.C_drewN ?_ _) | (with_reducible refine Kd.C_drew ?_)))
                                                    (case side4 => rw [show y258.length = y255.length from (Kd.R_reads' HO257.out).1.symm]; exact (Kd.R_reads' HO257.out).2.1)
                                                    rintro e w58 ⟨v264, rfl, ho0, hb⟩
                                                    have HS0_ := (hb.cell (World.block_lt_of_cell? _ _ (hHeld))).trans (hHeld)
                                                    refine ⟨_, rfl, ?_⟩
                                                    have n0_ := Aside0.mk (Kd.N_elder' (by (with_reducible repeat (first | apply Kd.N_alloc | apply Kd.N_drewN | apply Kd.N_drew)); exact HO_12.out) (Kd.R_base ho0) hb)
                                                    have n1_ := Aside0.mk (Kd.R_elder' (by (with_reducible repeat (first | apply Kd.R_alloc | apply Kd.R_drewN | apply Kd.R_drew)); exact HO257.out) (Kd.R_base ho0) hb)
                                                    have n2_ := Aside0.mk (Kd.N_elder' (by (with_reducible repeat (first | apply Kd.N_alloc | apply Kd.N_drewN | apply Kd.N_drew)); exact HO261.out) (Kd.R_base ho0) hb)
                                                    have n3_ := Aside0.mk (Kd.V_elder' (by (with_reducible repeat (first | apply Kd.V_alloc | apply Kd.V_drewN | apply Kd.V_drew)); exact HL262_0.out) (Kd.R_base ho0) hb)
                                                    have n4_ := Aside0.mk (Kd.R_lower (Kd.R_new' ho0 (Kd.R_lt (by (with_reducible repeat (first | apply Kd.R_alloc | apply Kd.R_drewN | apply Kd.R_drew)); exact HO257.out))) (below_size (by repeat (first | (with_reducible first | exact HB.out | apply below_alloc | apply pw_below_drewN | apply below_drew1) | exact HB.out))))
                                                    have n5_ := Aside0.mk (Kd.C_below (by repeat (first | (with_reducible exact HR262_0.out) | (with_reducible refine Kd.C_alloc ?_ _) | (with_reducible refine Kd.C_drewN ?_ _) | (with_reducible refine Kd.C_drew ?_) | exact HR262_0.out)) hb)
                                                    have n6_ := Aside0.mk (below_step (by repeat (first | (with_reducible first | exact HB.out | apply below_alloc | apply pw_below_drewN | apply below_drew1) | exact HB.out)) hb)
                                                    clear HO_12
                                                    clear HO257
                                                    clear HO261
                                                    clear HL262_0
                                                    clear HR262_0
                                                    clear HB
                                                    have HO_12 := n0_
                                                    have HO257 := n1_
                                                    have HO261 := n2_
                                                    have HL262_0 := n3_
                                                    have HO265 := n4_
                                                    have HR262_0 := n5_
                                                    have HB := n6_
                                                    clear n0_ n1_ n2_ n3_ n4_ n5_ n6_
                                                    (try clear hb)
                                                    (try clear hb2)
                                                    (try clear hk)
                                                    (try clear hi)
                                                    (try clear ho0)
                                                    obtain ⟨Ao59, co59, eo59⟩ := Kd.R_slice HO265.out
                                                    (first | subst eo59 | (injection eo59 with f1_ f2_ f3_; have f4_ := f1_.symm; have f5_ := f3_.symm; clear f1_ f2_ f3_; subst f4_; subst f5_))
                                                    refine hK.out _ _ (HS0_) (fun hHeld => ?_)
                                                    clear hK K
                                                    refine norm_ (a' := ?_) ?_ ?_
                                                    rotate_left
                                                    · show Act.put _ (some 107) _ = _
                                                      simp only [Act.put, List.setIfInBounds_toArray, List.set_cons_zero, List.set_cons_succ, i64_w, i32_w]
                                                      rfl
                                                    refine one_ (i := 8) (N := some 108) #[true, true, true, true, true, true, true, true, true, false] rfl rfl (one_of HT_.out (by kernel_rfl)) (by decide) (fun K hK => ?_)
                                                    refine goes_ Tryd.func27 (by kernel_rfl) rfl #[.slice A262_0 (rd_L1 t259 x91_6).length c262_0, .slice Ao59 t263.length co59] (by rfl) rfl rfl (by (try simp only [List.map_toArray, List.map_cons, List.map_nil]); first | done | rfl | (simp only [List.length_drop, List.length_take]; rfl)) ?_
                                                    with_reducible refine (laws_equalBytes.calls k6 _ _ (rd_L1 t259 x91_6) _ _ t263 true _ ?side1 ?side2 ?side3 ?side4 A48.out).mono ?_
                                                    (case side1 => repeat (first | exact (by repeat (first | (with_reducible exact HR262_0.out) | (with_reducible refine Kd.C_alloc ?_ _) | (with_reducible refine Kd.C_drewN ?_ _) | (with_reducible refine Kd.C_drew ?_) | exact HR262_0.out)) | (with_reducible refine Kd.C_alloc ?_ _) | (with_reducible refine Kd.C_drewN ?_ _) | (with_reducible refine Kd.C_drew ?_)))
                                                    (case side2 => exact HC262_0.out)
                                                    (case side3 => repeat (first | exact (Kd.R_reads' HO265.out).2.2 | (with_reducible refine Kd.C_alloc ?_ _) | (with_reducible refine Kd.C_drewN ?_ _) | (with_reducible refine Kd.C_drew ?_)))
                                                    (case side4 => exact (Kd.R_reads' HO265.out).2.1)
                                                    rintro e w' ⟨rfl, ⟨nd, rfl⟩⟩
                                                    refine ⟨_, rfl, ?_⟩
                                                    refine hK.out _ _ (hHeld) (fun hHeld => ?_)
                                                    clear hK K
                                                    refine norm_ (a' := ?_) ?_ ?_
                                                    rotate_left
                                                    · show Act.put _ (some 108) _ = _
                                                      simp only [Act.put, List.setIfInBounds_toArray, List.set_cons_zero, List.set_cons_succ, i64_w, i32_w]
                                                      rfl
                                                    refine pure_ (i := 9) (N := some 109) (v := ?_) (a' := ?_) #[true, true, true, true, true, true, true, true, true, true] rfl rfl (any_of HT_.out (by kernel_rfl)) (fun _ _ _ h => h) (Or.inl ⟨by rfl, ?_⟩) ?_ ?_
                                                    rotate_left
                                                    · intro w'
                                                      go_simp
                                                      with_reducible rfl
                                                    rotate_left
                                                    · simp only [Act.put, List.setIfInBounds_toArray, List.set_cons_zero, List.set_cons_succ, i64_w, i32_w]
                                                      rfl
                                                    refine done_ (done_of HT_.out (by kernel_rfl)) ?_
                                                    try go_wp2
                                                    go_roundg k6
                                                    case measure => have := HJ2.out; have := HK2.out; have := HJ16.out; have := HK4.out; have := HJ32.out; have := HK6.out; omega
                                                    case rel => exact ⟨(wrap64 (x91_6 + 1)), (by first | rfl | (simp; done) | (simp [*]; done)), H', ⟨by have := HJ2.out; have := HK2.out; have := HJ16.out; have := HK4.out; have := HJ32.out; have := HK6.out; omega⟩, ⟨by (with_reducible repeat (first | apply Kd.N_alloc | apply Kd.N_drewN | apply Kd.N_drew)); exact Kd.N_mono HO_12.out (fun _ hk => trivial)⟩, ⟨by repeat (first | (with_reducible first | exact HB.out | apply below_alloc | apply pw_below_drewN | apply below_drew1) | exact HB.out)⟩⟩
                                                  · replace c49 := Bool.eq_false_iff.mpr c49
                                                    subst c49
                                                    have H1 : (some false) = some r := by rw [if_neg (show ¬ (false = true) by decide)] at H; exact H
                                                    clear H
                                                    have H := H1
                                                    clear H1
                                                    obtain rfl := Option.some.inj H
                                                    try go_wp2_with (first | ((with_reducible refine gate_dst (N := 96) rfl ?_); (try (refine gate_guard (by rfl) ?_; dsimp only)); refine Kd.R_make (Kd.int .u8) _ 5 rfl (N := 96) rfl 22 _ _ rfl (l0.length : Int) rfl rfl Tryd.underlying22 (.int .u8 0) 1 info5 rfl (by decide) (by omega) 0 (ok := fun _ => True) (okp := fun _ => True) rfl (fun _ hk => hk) trivial (of_decide_eq_true (by first | (with_reducible assumption) | assumption)) (Nat.le_trans (Nat.mul_le_mul_right _ (of_decide_eq_true (by first | (with_reducible assumption) | assumption) : (l0.length : Int).toNat ≤ 281474976710656)) (by omega)) (Below.refl _ _) (Nat.le_refl _) ?_; intro v256 w60 ho61 hb hg_ hnew_; clear hg_ hnew_; (first | rw [← Ny255.out] at ho61 | (simp only [Int.reduceToNat] at ho61; rw [← Ny255.out] at ho61)); have n0_ := Aside0.mk (Kd.N_elder' (by (with_reducible repeat (first | apply Kd.N_alloc | apply Kd.N_drewN | apply Kd.N_drew)); exact HO_12.out) (Kd.R_base ho61) hb); have n1_ := Aside0.mk (Kd.R_lower ho61 (below_size (by repeat (first | (with_reducible first | exact HB.out | apply below_alloc | apply pw_below_drewN | apply below_drew1) | exact HB.out)))); have n2_ := Aside0.mk (below_step (by repeat (first | (with_reducible first | exact HB.out | apply below_alloc | apply pw_below_drewN | apply below_drew1) | exact HB.out)) hb); clear HO_12; clear HB; have HO_12 := n0_; have HO257 := n1_; have HB := n2_; clear n0_ n1_ n2_; clear hb ho61; have p44 : 0 ≤ (x91_6 : Int) := of_decide_eq_true (by first | (with_reducible assumption) | assumption); have q44 : (x91_6 : Int) < ((y255.length : Int) : Int) := of_decide_eq_true (by first | (with_reducible assumption) | assumption); obtain ⟨go44, co44, eo44, gb44, gl44, cl44, HG44⟩ := Kd.R_form HO257.out (by omega); (first | cases eo44 | (injection eo44 with ea_ en_ ec_; (first | subst ea_ | (injection ea_ with ea_; subst ea_)); subst ec_; clear en_)); have GB44 := Aside0.mk gb44; have GG44 := Aside0.mk HG44; clear gb44 gl44 HG44; obtain ⟨hx44_0, hf44_0⟩ := Kd.R_celln 0 HO257.out (x91_6 : Int) p44 q44; replace p44 := eq_true p44; replace q44 := eq_true q44; obtain ⟨hy62_, hz62_⟩ := Kd.R_celln 0 HO257.out (x91_6 : Int) (of_decide_eq_true (by first | (with_reducible assumption) | assumption)) (of_decide_eq_true (by first | (with_reducible assumption) | assumption)); have HP62 := Kd.R_putg HO257.out (x91_6 : Int) 1) | ((with_reducible refine gate_store (t := 5) (p := 99) rfl ?_); refine store_event (t := 5) (p := 99) (v := ?vo_w63) (w1 := (w60.setCell ⟨go44, (x91_6 : Int).toNat, none⟩ (.int .u8 1))) ?hg ?ho ?hn ?hr ?_; (case ho => rfl); (case hg => rfl); (case hn => rfl); (case hr => first | (go_simp; done) | (go_simp; rfl)); intro w63 hw; have hg : w60.grownBy w63 (some go44) := (by rw [hw]; exact HP62.2); have hp_ : Kd.R (Kd.int .u8) 5 w63 w.heap.size (fun _ => True) (.slice (some ⟨go44, 0, none⟩) y255.length co44) y258 := (by rw [hw, Ny258.out]; exact HP62.1); clear HP62; have n0_ := Aside0.mk (Kd.N_afterv (v := (.slice (some ⟨go44, 0, none⟩) y255.length co44)) (v1 := (.slice (some ⟨go44, 0, none⟩) y255.length co44)) (ok := (fun _ => True)) (by (with_reducible repeat (first | apply Kd.N_alloc | apply Kd.N_drewN | apply Kd.N_drew)); exact HO_12.out) hg (.inl rfl)); have n1_ := Aside0.mk (hp_); have n2_ := Aside0.mk ((by rw [hw]; exact below_set (HB.out) GB44.out : Below w.heap.size w w63)); clear HO_12; clear HO257; clear HB; have HO_12 := n0_; have HO257 := n1_; have HB := n2_; clear n0_ n1_ n2_; clear hg hw hp_))
                                                    have n0_ := Aside0.mk (Kd.N_drew HO_12.out)
                                                    have n1_ := Aside0.mk (Kd.R_drew HO257.out)
                                                    have n2_ := Aside0.mk (below_drew1 HB.out)
                                                    clear HO_12
                                                    clear HO257
                                                    clear HB
                                                    have HO_12 := n0_
                                                    have HO257 := n1_
                                                    have HB := n2_
                                                    clear n0_ n1_ n2_
                                                    obtain ⟨Ao65, co65, eo65⟩ := Kd.N_slice HO_12.out
                                                    (first | subst eo65 | (injection eo65 with f1_ f2_ f3_; have f4_ := f1_.symm; have f5_ := f3_.symm; clear f1_ f2_ f3_; subst f4_; subst f5_))
                                                    refine start_ (n := 10) (S := fun w' => True) (ds := []) #[false, false, false, false, false, false, false, false, false, false] (by kernel_rfl) rfl rfl trivial (fun hHeld => ?_); refine with_tabW laws_FnVandermondeIndependent.tab32 laws_FnVandermondeIndependent.bits32 (fun HT_ HW_ => ?_)
                                                    generalize w63.drew = w64 at HO_12 HO257 HB hHeld ⊢
                                                    refine pure_ (i := 0) (N := some 100) (v := ?_) (a' := ?_) #[true, false, false, false, false, false, false, false, false, false] rfl rfl (any_of HT_.out (by kernel_rfl)) (fun _ _ _ h => h) (Or.inl ⟨by rfl, ?_⟩) ?_ ?_
                                                    rotate_left
                                                    · intro w'
                                                      go_simp
                                                      with_reducible rfl
                                                    rotate_left
                                                    · simp only [Act.put, List.setIfInBounds_toArray, List.set_cons_zero, List.set_cons_succ, i64_w, i32_w]
                                                      rfl
                                                    refine pure_ (i := 2) (N := some 102) (v := ?_) (a' := ?_) #[true, false, true, false, false, false, false, false, false, false] rfl rfl (any_of HT_.out (by kernel_rfl)) (fun _ _ _ h => h) (Or.inl ⟨by rfl, ?_⟩) ?_ ?_
                                                    rotate_left
                                                    · intro w'
                                                      go_simp
                                                      with_reducible rfl
                                                    rotate_left
                                                    · simp only [Act.put, List.setIfInBounds_toArray, List.set_cons_zero, List.set_cons_succ, i64_w, i32_w]
                                                      rfl
                                                    refine pure_ (i := 5) (N := some 105) (v := ?_) (a' := ?_) #[true, false, true, false, false, true, false, false, false, false] rfl rfl (any_of HT_.out (by kernel_rfl)) (fun _ _ _ h => h) (Or.inl ⟨by rfl, ?_⟩) ?_ ?_
                                                    rotate_left
                                                    · intro w'
                                                      go_simp
                                                      with_reducible rfl
                                                    rotate_left
                                                    · simp only [Act.put, List.setIfInBounds_toArray, List.set_cons_zero, List.set_cons_succ, i64_w, i32_w]
                                                      rfl
                                                    refine pure_ (i := 6) (N := some 106) (v := ?_) (a' := ?_) #[true, false, true, false, false, true, true, false, false, false] rfl rfl (any_of HT_.out (by kernel_rfl)) (fun _ _ _ h => h) (Or.inl ⟨by rfl, ?_⟩) ?_ ?_
                                                    rotate_left
                                                    · intro w'
                                                      go_simp
                                                      with_reducible rfl
                                                    rotate_left
                                                    · simp only [Act.put, List.setIfInBounds_toArray, List.set_cons_zero, List.set_cons_succ, i64_w, i32_w]
                                                      rfl
                                                    refine one_ (i := 1) (N := some 101) #[true, true, true, false, false, true, true, false, false, false] rfl rfl (one_of HT_.out (by kernel_rfl)) (by decide) (fun K hK => ?_)
                                                    refine goes_ Tryd.func28 (by kernel_rfl) rfl #[.slice Ao65 t251.length co65] (by rfl) rfl rfl (by (try simp only [List.map_toArray, List.map_cons, List.map_nil]); first | done | rfl | (simp only [List.length_drop, List.length_take]; rfl)) ?_
                                                    with_reducible refine (spec_Turned.calls k6 _ _ t251 t259 _ ?side1 ?side2 A45.out).mono ?_
                                                    (case side1 => repeat (first | exact (Kd.N_reads' HO_12.out).2.2 | (with_reducible refine Kd.C_alloc ?_ _) | (with_reducible refine Kd.C_drewN ?_ _) | (with_reducible refine Kd.C_drew ?_)))
                                                    (case side2 => exact (Kd.N_reads' HO_12.out).2.1)
                                                    rintro e w66 ⟨v260, rfl, ho0, hb⟩
                                                    have HS0_ : True := trivial
                                                    refine ⟨_, rfl, ?_⟩
                                                    have n0_ := Aside0.mk (Kd.N_elder' (by (with_reducible repeat (first | apply Kd.N_alloc | apply Kd.N_drewN | apply Kd.N_drew)); exact HO_12.out) (by first | exact Kd.N_base ho0 | exact Kd.S_base ho0 | exact Kd.N_base (Kd.S_N (Kd.S_bound ho0))) hb)
                                                    have n1_ := Aside0.mk (Kd.R_below (by (with_reducible repeat (first | apply Kd.R_alloc | apply Kd.R_drewN | apply Kd.R_drew)); exact HO257.out) hb)
                                                    have n2_ := Aside0.mk (Kd.N_lower (Kd.N_mono (ok' := fun k_ => some k_ ≠ (.slice Ao65 t251.length co65 : Value).ownBlock ∧ some k_ ≠ (.slice (some ⟨go44, 0, none⟩) y255.length co44 : Value).ownBlock) (Kd.S_N (Kd.S_bound ho0)) (fun k_ hk_ => ⟨(Kd.fresh' (Kd.N_lt (by (with_reducible repeat (first | apply Kd.N_alloc | apply Kd.N_drewN | apply Kd.N_drew)); exact HO_12.out)) k_ hk_.2.1), (Kd.fresh' (Kd.R_lt (by (with_reducible repeat (first | apply Kd.R_alloc | apply Kd.R_drewN | apply Kd.R_drew)); exact HO257.out)) k_ hk_.2.1)⟩)) (below_size (by repeat (first | (with_reducible first | exact HB.out | apply below_alloc | apply pw_below_drewN | apply below_drew1) | exact HB.out))))
                                                    have n3_ := Aside0.mk (below_step (by repeat (first | (with_reducible first | exact HB.out | apply below_alloc | apply pw_below_drewN | apply below_drew1) | exact HB.out)) hb)
                                                    clear HO_12
                                                    clear HO257
                                                    clear HB
                                                    have HO_12 := n0_
                                                    have HO257 := n1_
                                                    have HO261 := n2_
                                                    have HB := n3_
                                                    clear n0_ n1_ n2_ n3_
                                                    (try clear hb)
                                                    (try clear hb2)
                                                    (try clear hk)
                                                    (try clear hi)
                                                    (try clear ho0)
                                                    obtain ⟨Ao67, co67, eo67⟩ := Kd.N_slice HO261.out
                                                    (first | subst eo67 | (injection eo67 with f1_ f2_ f3_; have f4_ := f1_.symm; have f5_ := f3_.symm; clear f1_ f2_ f3_; subst f4_; subst f5_))
                                                    have p262 : 0 ≤ (x91_6 : Int) := of_decide_eq_true (by first | (with_reducible assumption) | assumption)
                                                    have q262 : x91_6 < (t259.length : Int) := of_decide_eq_true (by first | (with_reducible assumption) | assumption)
                                                    obtain ⟨ad262, A262_0, c262_0, e262, hx262_0, hl262_0, hi262_0⟩ := at_L1 (Kd.N_reads' HO261.out).2.2 x91_6 p262 q262
                                                    cases e262
                                                    obtain ⟨ce262, hce262, hMe262, hcc262⟩ := Kd.N_get HO261.out [] x91_6 p262 (by first | exact q262 | exact of_decide_eq_true (by first | (with_reducible assumption) | assumption) | (have e_ := (Kd.N_reads' HO261.out).1; omega))
                                                    obtain ⟨ua262_0, uc262_0, rfl, ul262_0, ge262_0⟩ := Kd.FK_slice_open hMe262
                                                    have hv262_0 := hcc262 0 _ rfl
                                                    rw [Nat.add_zero, show ((Kd.slice 5 (Kd.int .u8))).sz = 1 from rfl, Nat.mul_one] at hv262_0
                                                    replace hv262_0 := Option.some.inj (hv262_0.symm.trans hx262_0)
                                                    injection hv262_0 with hva_ hvn_ hvc_
                                                    rw [hva_] at ge262_0
                                                    rw [hvc_] at ul262_0
                                                    have HL262_0 := Aside0.mk (show Kd.V (Kd.int .u8) 5 _ w.heap.size _ _ (rd_L1 t259 x91_6) from Kd.V_mk ul262_0 ge262_0)
                                                    clear hva_ hvn_ hvc_ ge262_0 ul262_0
                                                    clear hcc262 hce262
                                                    have HR262_0 := Aside0.mk hi262_0
                                                    have HC262_0 := Aside0.mk hl262_0
                                                    clear hi262_0 hl262_0
                                                    replace p262 := eq_true p262
                                                    replace q262 := eq_true q262
                                                    refine hK.out _ _ (HS0_) (fun hHeld => ?_)
                                                    clear hK K
                                                    refine norm_ (a' := ?_) ?_ ?_
                                                    rotate_left
                                                    · show Act.put _ (some 101) _ = _
                                                      simp only [Act.put, List.setIfInBounds_toArray, List.set_cons_zero, List.set_cons_succ, i64_w, i32_w]
                                                      rfl
                                                    refine strong_ (S' := fun w' => w'.cell? (ad262.add (x91_6).toNat) = some (.slice A262_0 (rd_L1 t259 x91_6).length c262_0)) _ _ _ _ ?_
                                                    clear hHeld
                                                    have hHeld := hx262_0
                                                    refine pure_ (i := 3) (N := some 103) (v := ?_) (a' := ?_) #[true, true, true, true, false, true, true, false, false, false] rfl rfl (any_of HT_.out (by kernel_rfl)) (fun _ _ _ h => h) (Or.inl ⟨by rfl, ?_⟩) ?_ ?_
                                                    rotate_left
                                                    · intro w'
                                                      go_simp
                                                      with_reducible rfl
                                                    rotate_left
                                                    · simp only [Act.put, List.setIfInBounds_toArray, List.set_cons_zero, List.set_cons_succ, i64_w, i32_w]
                                                      rfl
                                                    refine take_ (i := 4) (N := some 104) (v := ?_) (a' := ?_) #[true, true, true, true, true, true, true, false, false, false] rfl rfl (take_ofW HT_.out HW_.out (by kernel_rfl)) (fun _ _ _ h => h) (Or.inl ⟨by rfl, ?_⟩) hHeld ?_ ?_
                                                    rotate_left
                                                    · intro w' s0
                                                      go_simp
                                                      with_reducible rfl
                                                    rotate_left
                                                    · simp only [Act.put, List.setIfInBounds_toArray, List.set_cons_zero, List.set_cons_succ, i64_w, i32_w]
                                                      rfl
                                                    refine one_ (i := 7) (N := some 107) #[true, true, true, true, true, true, true, true, false, false] rfl rfl (one_of HT_.out (by kernel_rfl)) (by decide) (fun K hK => ?_)
                                                    refine goes_ Tryd.func29 (by kernel_rfl) rfl #[.slice A0 l0.length c0, .slice (some ⟨go44, 0, none⟩) y258.length co44] (by rfl) rfl rfl (by (try simp only [List.map_toArray, List.map_cons, List.map_nil]); first | done | (rw [show y258.length = y255.length from (Kd.R_reads' HO257.out).1.symm] <;> rfl) | rfl | (simp only [List.length_drop, List.length_take]; rfl)) ?_
                                                    with_reducible refine (spec_Interpolate.calls k6 _ _ l0 _ _ y258 t263 _ ?side1 ?side2 ?side3 ?side4 A47.out).mono ?_
                                                    (case side1 => repeat (first | exact (Kd.C_below HR0.out HB.out) | (with_reducible refine Kd.C_alloc ?_ _) | (with_reducible refine Kd.C_drewN ?_ _) | (with_reducible refine Kd.C_drew ?_)))
                                                    (case side2 => exact HC0.out)
                                                    (case side3 => repeat (first | exact (Kd.R_reads' HO257.out).2.2 | (with_reducible refine Kd.C_alloc ?_ _) | (with_reducible refine Kd.C_drewN ?_ _) | (with_reducible refine Kd.C_drew ?_)))
                                                    (case side4 => rw [show y258.length = y255.length from (Kd.R_reads' HO257.out).1.symm]; exact (Kd.R_reads' HO257.out).2.1)
                                                    rintro e w68 ⟨v264, rfl, ho0, hb⟩
                                                    have HS0_ := (hb.cell (World.block_lt_of_cell? _ _ (hHeld))).trans (hHeld)
                                                    refine ⟨_, rfl, ?_⟩
                                                    have n0_ := Aside0.mk (Kd.N_elder' (by (with_reducible repeat (first | apply Kd.N_alloc | apply Kd.N_drewN | apply Kd.N_drew)); exact HO_12.out) (Kd.R_base ho0) hb)
                                                    have n1_ := Aside0.mk (Kd.R_elder' (by (with_reducible repeat (first | apply Kd.R_alloc | apply Kd.R_drewN | apply Kd.R_drew)); exact HO257.out) (Kd.R_base ho0) hb)
                                                    have n2_ := Aside0.mk (Kd.N_elder' (by (with_reducible repeat (first | apply Kd.N_alloc | apply Kd.N_drewN | apply Kd.N_drew)); exact HO261.out) (Kd.R_base ho0) hb)
                                                    have n3_ := Aside0.mk (Kd.V_elder' (by (with_reducible repeat (first | apply Kd.V_alloc | apply Kd.V_drewN | apply Kd.V_drew)); exact HL262_0.out) (Kd.R_base ho0) hb)
                                                    have n4_ := Aside0.mk (Kd.R_lower (Kd.R_new' ho0 (Kd.R_lt (by (with_reducible repeat (first | apply Kd.R_alloc | apply Kd.R_drewN | apply Kd.R_drew)); exact HO257.out))) (below_size (by repeat (first | (with_reducible first | exact HB.out | apply below_alloc | apply pw_below_drewN | apply below_drew1) | exact HB.out))))
                                                    have n5_ := Aside0.mk (Kd.C_below (by repeat (first | (with_reducible exact HR262_0.out) | (with_reducible refine Kd.C_alloc ?_ _) | (with_reducible refine Kd.C_drewN ?_ _) | (with_reducible refine Kd.C_drew ?_) | exact HR262_0.out)) hb)
                                                    have n6_ := Aside0.mk (below_step (by repeat (first | (with_reducible first | exact HB.out | apply below_alloc | apply pw_below_drewN | apply below_drew1) | exact HB.out)) hb)
                                                    clear HO_12
                                                    clear HO257
                                                    clear HO261
                                                    clear HL262_0
                                                    clear HR262_0
                                                    clear HB
                                                    have HO_12 := n0_
                                                    have HO257 := n1_
                                                    have HO261 := n2_
                                                    have HL262_0 := n3_
                                                    have HO265 := n4_
                                                    have HR262_0 := n5_
                                                    have HB := n6_
                                                    clear n0_ n1_ n2_ n3_ n4_ n5_ n6_
                                                    (try clear hb)
                                                    (try clear hb2)
                                                    (try clear hk)
                                                    (try clear hi)
                                                    (try clear ho0)
                                                    obtain ⟨Ao69, co69, eo69⟩ := Kd.R_slice HO265.out
                                                    (first | subst eo69 | (injection eo69 with f1_ f2_ f3_; have f4_ := f1_.symm; have f5_ := f3_.symm; clear f1_ f2_ f3_; subst f4_; subst f5_))
                                                    refine hK.out _ _ (HS0_) (fun hHeld => ?_)
                                                    clear hK K
                                                    refine norm_ (a' := ?_) ?_ ?_
                                                    rotate_left
                                                    · show Act.put _ (some 107) _ = _
                                                      simp only [Act.put, List.setIfInBounds_toArray, List.set_cons_zero, List.set_cons_succ, i64_w, i32_w]
                                                      rfl
                                                    refine one_ (i := 8) (N := some 108) #[true, true, true, true, true, true, true, true, true, false] rfl rfl (one_of HT_.out (by kernel_rfl)) (by decide) (fun K hK => ?_)
                                                    refine goes_ Tryd.func27 (by kernel_rfl) rfl #[.slice A262_0 (rd_L1 t259 x91_6).length c262_0, .slice Ao69 t263.length co69] (by rfl) rfl rfl (by (try simp only [List.map_toArray, List.map_cons, List.map_nil]); first | done | rfl | (simp only [List.length_drop, List.length_take]; rfl)) ?_
                                                    with_reducible refine (laws_equalBytes.calls k6 _ _ (rd_L1 t259 x91_6) _ _ t263 false _ ?side1 ?side2 ?side3 ?side4 A48.out).mono ?_
                                                    (case side1 => repeat (first | exact (by repeat (first | (with_reducible exact HR262_0.out) | (with_reducible refine Kd.C_alloc ?_ _) | (with_reducible refine Kd.C_drewN ?_ _) | (with_reducible refine Kd.C_drew ?_) | exact HR262_0.out)) | (with_reducible refine Kd.C_alloc ?_ _) | (with_reducible refine Kd.C_drewN ?_ _) | (with_reducible refine Kd.C_drew ?_)))
                                                    (case side2 => exact HC262_0.out)
                                                    (case side3 => repeat (first | exact (Kd.R_reads' HO265.out).2.2 | (with_reducible refine Kd.C_alloc ?_ _) | (with_reducible refine Kd.C_drewN ?_ _) | (with_reducible refine Kd.C_drew ?_)))
                                                    (case side4 => exact (Kd.R_reads' HO265.out).2.1)
                                                    rintro e w' ⟨rfl, ⟨nd, rfl⟩⟩
                                                    refine ⟨_, rfl, ?_⟩
                                                    refine hK.out _ _ (hHeld) (fun hHeld => ?_)
                                                    clear hK K
                                                    refine norm_ (a' := ?_) ?_ ?_
                                                    rotate_left
                                                    · show Act.put _ (some 108) _ = _
                                                      simp only [Act.put, List.setIfInBounds_toArray, List.set_cons_zero, List.set_cons_succ, i64_w, i32_w]
                                                      rfl
                                                    refine pure_ (i := 9) (N := some 109) (v := ?_) (a' := ?_) #[true, true, true, true, true, true, true, true, true, true] rfl rfl (any_of HT_.out (by kernel_rfl)) (fun _ _ _ h => h) (Or.inl ⟨by rfl, ?_⟩) ?_ ?_
                                                    rotate_left
                                                    · intro w'
                                                      go_simp
                                                      with_reducible rfl
                                                    rotate_left
                                                    · simp only [Act.put, List.setIfInBounds_toArray, List.set_cons_zero, List.set_cons_succ, i64_w, i32_w]
                                                      rfl
                                                    refine done_ (done_of HT_.out (by kernel_rfl)) ?_
                                                    try go_wp2
                                                    go_ret
                                                    exact ⟨by first | rfl | (simp [errW_none, errW_some] <;> rfl) | (simp [*, errW_none, errW_some] <;> rfl), by repeat (first | (with_reducible first | exact HB.out | apply below_alloc | apply pw_below_drewN | apply below_drew1) | exact HB.out)⟩
                                                · rw [if_neg c46] at H
                                                  exact absurd H (by simp)
                                              · rw [if_neg c43] at H
                                                exact absurd H (by simp)
                                            · rw [if_neg c42] at H
                                              exact absurd H (by simp)
                                          · rw [if_neg c41] at H
                                            exact absurd H (by simp)
                                        · rw [if_neg c40] at H
                                          exact absurd H (by simp)
                                      · rw [if_neg c39] at H
                                        have c39b0 : decide (x91_6 < (l0.length : Int)) = false := decide_eq_false c39
                                        clear c39
                                        obtain rfl := Option.some.inj H
                                        go_wp2
                                        go_ret
                                        exact ⟨by first | rfl | (simp [errW_none, errW_some] <;> rfl) | (simp [*, errW_none, errW_some] <;> rfl), by repeat (first | (with_reducible first | exact HB.out | apply below_alloc | apply pw_below_drewN | apply below_drew1) | exact HB.out)⟩
def laws_FnVandermondeIndependent.Pure : Prop := ∀ (l0 : List Int), l0.length ≤ maxLen → l0.length * 1 ≤ 140737488351232 → (∀ x ∈ l0, (Lit.int .u8 x).wf = true) → ∃ k, laws_FnVandermondeIndependent.f k l0 = some true
end Go.Proofs.YtpeikjnkbjabpaaDoor.V
