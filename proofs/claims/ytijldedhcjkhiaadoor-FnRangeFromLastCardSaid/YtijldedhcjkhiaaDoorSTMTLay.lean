import Derived.Test.YtijldedhcjkhiaaDoorRows
import Derived.Test.YtijldedhcjkhiaaDoorSTT0
import Derived.Lib.LaidTab
import Derived.LaidMore
import Derived.LaidByTextLater
import Derived.ProofKit
namespace Go.Proofs.YtijldedhcjkhiaaDoor.Lay
open Go.RowKit Go.ChangeAt
def laid {H : Type} : List (String × DataW H) := [("math/bits.deBruijn64tab", Rows.laid_math_bits_deBruijn64tab)]
def tab : List Int := Lib.deBruijn64tab.map fun (n : Nat) => (n : Int)
theorem globT {W : World} (h : laidMetH Tryd.prog laid W) : T.GlobT W := by
  rw [MakeChecks.laidMetH_plain _ _ _ (by kernel_rfl)] at h
  have h1 : Lib.TabIs Tryd.prog W "math/bits.deBruijn64tab" .u8 tab :=
    Lib.tabIs_of_head (g := 0) (t := 192) (e := 5) (n := 64) (rest := []) (by kernel_rfl) (by kernel_rfl) Tryd.underlying192 Tryd.underlying5 (by kernel_rfl) (by kernel_rfl) h
  refine ⟨fun j hj => ?_⟩
  have h2 := h1.cell (g := 0) (by kernel_rfl) j (by simpa [tab, Lib.deBruijn64tab] using hj)
  rw [h2]
  congr 2
  unfold tab
  rw [List.getD_eq_getElem?_getD, List.getD_eq_getElem?_getD, List.getElem?_map]
  cases Lib.deBruijn64tab[j]? <;> rfl
theorem door_met (os : Os) (args : Array Value) : laidMetH Tryd.prog laid ((World.doorLaid Tryd.prog 400 os).forCall (fun _ _ => 0) ⟨#[], args, []⟩).memory :=
  laidMetH_of_parts3 (fuel := 8) (laidMet_of_run' 8 (by kernel_rfl) (by kernel_rfl)) (by kernel_rfl) (by kernel_rfl)
end Go.Proofs.YtijldedhcjkhiaaDoor.Lay
