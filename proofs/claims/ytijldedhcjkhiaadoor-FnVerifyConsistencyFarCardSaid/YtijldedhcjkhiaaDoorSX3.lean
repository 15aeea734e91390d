import Derived.Test.YtijldedhcjkhiaaDoorSX0
import Derived.Test.YtijldedhcjkhiaaDoorSX2
namespace Go.Proofs.YtijldedhcjkhiaaDoor.X
open Go.RowKit Go.Proofs.YtijldedhcjkhiaaDoorW.PrintWords Go.Proofs.YtijldedhcjkhiaaDoorW.PrintLast Go.Proofs.YtijldedhcjkhiaaDoorW.PrintMore
attribute [local go_sem] max2_int min2_int max_two min_two max_three min_three max_four min_four   -- for this text's walks alone
set_option linter.unusedVariables false
set_option linter.unusedSimpArgs false
mutual
def spec_MergedLevels.l0 : Nat → List Int → List (S70) → List (S70) → Int → Int → Option (List Int)
  | 0, _, _, _, _, _ => none
  | k + 1, x7, x8, x19, x20, x21 => if x21 < x20 then (if 0 ≤ x21 then (if x21 < (x19.length : Int) then ((some (([(⟨(rd_T70 x19 x21).f0, (rd_T70 x19 x21).f1⟩ : S70)] : List (S70)) : List (S70))).bind fun y127 => (if x8.length + y127.length < 8796093022208 then ((some (x8 ++ y127 : List (S70))).bind fun y130 => (spec_MergedLevels.l1 k x7 y130 (y130.length : Int) x19 x20 x21 ((rd_T70 x19 x21).f0) ((rd_T70 x19 x21).f1))) else (none))) else (none)) else (none)) else (some x7)
def spec_MergedLevels.l1 : Nat → List Int → List (S70) → Int → List (S70) → Int → Int → Int → Int → Option (List Int)
  | 0, _, _, _, _, _, _, _, _ => none
  | k + 1, x7, x8, x11, x19, x20, x21, x127000, x127001 => if x11 > 1 then (if 0 ≤ (wrap64 (x11 - 2)) then (if (wrap64 (x11 - 2)) < (x8.length : Int) then (if ((rd_T70 x8 (wrap64 (x11 - 2))).f0) = x127000 then (if (Int.tmod ((rd_T70 x8 (wrap64 (x11 - 2))).f1) 2) = 0 then (if (wrap64 (x11 - 2)) ≤ (x8.length : Int) then ((some (x8.take ((wrap64 (x11 - 2)) : Int).toNat : List (S70))).bind fun y135 => ((some (([(⟨IntKind.u64.wrap (x127000 + 1), IntKind.u64.wrap (Int.tdiv x127001 2)⟩ : S70)] : List (S70)) : List (S70))).bind fun y138 => (if y135.length + y138.length < 8796093022208 then ((some (y135 ++ y138 : List (S70))).bind fun y141 => ((some (([IntKind.u64.wrap (x127000 + 1)] : List Int) : List Int)).bind fun y144 => (if x7.length + y144.length < 17592186044416 then (spec_MergedLevels.l1 k (x7 ++ y144) y141 (y141.length : Int) x19 x20 x21 (IntKind.u64.wrap (x127000 + 1)) (IntKind.u64.wrap (Int.tdiv x127001 2))) else (none)))) else (none)))) else (none)) else (spec_MergedLevels.l0 k x7 x8 x19 x20 (wrap64 (x21 + 1)))) else (spec_MergedLevels.l0 k x7 x8 x19 x20 (wrap64 (x21 + 1)))) else (none)) else (none)) else (spec_MergedLevels.l0 k x7 x8 x19 x20 (wrap64 (x21 + 1)))
end
def spec_MergedLevels.f (k : Nat) (a0 : Int) (a1 : Int) (a2 : Int) : Option (List Int) := (spec_Nodes.f k a0 a1).bind fun t119 => ((spec_Nodes.f k a1 a2).bind fun t122 => (spec_MergedLevels.l0 k ([] : List Int) t119 t122 (t122.length : Int) 0))
theorem spec_MergedLevels.mono_l : ∀ k, (∀ y0 y1 y2 y3 y4, LeO (spec_MergedLevels.l0 k y0 y1 y2 y3 y4) (spec_MergedLevels.l0 (k + 1) y0 y1 y2 y3 y4)) ∧ (∀ y0 y1 y2 y3 y4 y5 y6 y7, LeO (spec_MergedLevels.l1 k y0 y1 y2 y3 y4 y5 y6 y7) (spec_MergedLevels.l1 (k + 1) y0 y1 y2 y3 y4 y5 y6 y7))
  | 0 => ⟨fun _ _ _ _ _ r h => by simp [spec_MergedLevels.l0] at h, fun _ _ _ _ _ _ _ _ r h => by simp [spec_MergedLevels.l1] at h⟩
  | k + 1 => by
    obtain ⟨ih0, ih1⟩ := spec_MergedLevels.mono_l k
    refine ⟨?_, ?_⟩
    · intro y0 y1 y2 y3 y4
      unfold spec_MergedLevels.l0
      repeat' first
      | (with_reducible exact ih0 _ _ _ _ _)
      | (with_reducible exact ih1 _ _ _ _ _ _ _ _)
      | (with_reducible exact spec_Nodes.mono _ _ _)
      | (with_reducible exact LeO.refl _)
      | (with_reducible exact LeO.none _)
      | (with_reducible refine LeO.ite ?_ ?_)
      | (with_reducible refine LeO.bind ?_ (fun _ => ?_))
      | exact ih0 _ _ _ _ _
      | exact ih1 _ _ _ _ _ _ _ _
      | exact spec_Nodes.mono _ _ _
      | exact LeO.none _
      | refine LeO.ite ?_ ?_
      | refine LeO.bind ?_ (fun _ => ?_)
    · intro y0 y1 y2 y3 y4 y5 y6 y7
      unfold spec_MergedLevels.l1
      repeat' first
      | (with_reducible exact ih0 _ _ _ _ _)
      | (with_reducible exact ih1 _ _ _ _ _ _ _ _)
      | (with_reducible exact spec_Nodes.mono _ _ _)
      | (with_reducible exact LeO.refl _)
      | (with_reducible exact LeO.none _)
      | (with_reducible refine LeO.ite ?_ ?_)
      | (with_reducible refine LeO.bind ?_ (fun _ => ?_))
      | exact ih0 _ _ _ _ _
      | exact ih1 _ _ _ _ _ _ _ _
      | exact spec_Nodes.mono _ _ _
      | exact LeO.none _
      | refine LeO.ite ?_ ?_
      | refine LeO.bind ?_ (fun _ => ?_)
theorem spec_MergedLevels.mono : ∀ a0 a1 a2 k, LeO (spec_MergedLevels.f k a0 a1 a2) (spec_MergedLevels.f (k + 1) a0 a1 a2) := by
  intro a0 a1 a2 k
  obtain ⟨ih0, ih1⟩ := spec_MergedLevels.mono_l k
  unfold spec_MergedLevels.f
  repeat' first
      | (with_reducible exact ih0 _ _ _ _ _)
      | (with_reducible exact ih1 _ _ _ _ _ _ _ _)
      | (with_reducible exact spec_Nodes.mono _ _ _)
      | (with_reducible exact LeO.refl _)
      | (with_reducible exact LeO.none _)
      | (with_reducible refine LeO.ite ?_ ?_)
      | (with_reducible refine LeO.bind ?_ (fun _ => ?_))
      | exact ih0 _ _ _ _ _
      | exact ih1 _ _ _ _ _ _ _ _
      | exact spec_Nodes.mono _ _ _
      | exact LeO.none _
      | refine LeO.ite ?_ ?_
      | refine LeO.bind ?_ (fun _ => ?_)
def spec_MergedLevels.T8 : Bool × List (List Nat × List Nat) := (true, [([], []), ([0], [0]), ([1], [1]), ([2], [2]), ([2], [2]), ([4, 2], [2, 4]), ([3, 5, 2], [2, 3, 5]), ([6, 2], [2, 6]), ([7, 2], [2, 7]), ([2], [2]), ([9, 2], [2, 9]), ([8, 10, 2], [2, 8, 10]), ([2, 11], [2, 11]), ([12, 2], [12]), ([13], [13]), ([13], [13]), ([15, 13], [13, 15]), ([14, 16, 13], [13, 14, 16]), ([17, 13], [13, 17]), ([18, 13], [13, 18]), ([19, 13], [13, 19]), ([20, 13], [13, 20]), ([13, 21], [13, 21])])
def spec_MergedLevels.B8 : List Nat := [0, 1, 3, 7, 7, 23, 63, 127, 255, 7, 519, 2047, 4095, 8191, 16383, 16383, 49151, 131071, 262143, 524287, 1048575, 2097151, 4194303]
theorem spec_MergedLevels.tab8 : rtab .any (opsOf Tryd.f16 8) = spec_MergedLevels.T8 := by kernel_rfl
theorem spec_MergedLevels.bits8 : waitsOk spec_MergedLevels.T8.2 spec_MergedLevels.B8 = true := by kernel_rfl
end Go.Proofs.YtijldedhcjkhiaaDoor.X
