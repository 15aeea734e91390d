/-
  The listed masks of Leopard's bit field, as the row of FnNeeded lists them, and what a walk reads of them.
-/
import Derived.Test.YtpeikjnkbjabpaaDoorRows
import Derived.Test.YtpeikjnkbjabpaaDoorN1
import Derived.Lib.LaidTab
import Derived.LaidMore
import Derived.LaidByTextLater
import Derived.LaidOnce
import Derived.ProofKit
namespace Go.Proofs.YtpeikjnkbjabpaaDoor.Lay
open Go.RowKit Go.ChangeAt

def laid {H : Type} : List (String × DataW H) := [("pub-sarsen/pub/reedsolomon.kHiMasks", Rows.laid_pub_sarsen_pub_reedsolomon_kHiMasks)]
def tabM : List Int := [12297829382473034410, 14757395258967641292, 17361641481138401520, 18374966859414961920, 18446462603027742720]
theorem is_tabM {H : Type} : (Rows.laid_pub_sarsen_pub_reedsolomon_kHiMasks : DataW H) = Lib.tabData .u64 tabM := rfl
theorem globM {W : World} (h : laidMetH Tryd.prog laid W) : N.GlobM W := by
  rw [MakeChecks.laidMetH_plain _ _ _ (by kernel_rfl)] at h
  unfold laid at h
  rw [is_tabM] at h
  have h1 : Lib.TabIs Tryd.prog W "pub-sarsen/pub/reedsolomon.kHiMasks" .u64 tabM :=
    Lib.tabIs_of_head (g := 2) (t := 78) (e := 59) (n := 5) (by kernel_rfl) (by kernel_rfl) Tryd.underlying78 Tryd.underlying59 (by kernel_rfl) (by kernel_rfl) h
  refine ⟨fun j hj => ?_⟩
  rw [h1.cell (g := 2) (by kernel_rfl) j (by simpa [tabM] using hj)]
  have : ∀ q : Fin 5, tabM.getD q.val 0 = ((N.hiM q.val : Nat) : Int) := by decide +kernel
  rw [this ⟨j, hj⟩]
theorem door_met (os : Os) (args : Array Value) : laidMetH Tryd.prog laid ((World.doorLaid Tryd.prog 138 os).forCall (fun _ _ => 0) ⟨#[], args, []⟩).memory :=
  laidMetH_of_parts3 (fuel := 8) (laidMet_of_run' 8 (by kernel_rfl) (by kernel_rfl)) (by kernel_rfl) (by kernel_rfl)
end Go.Proofs.YtpeikjnkbjabpaaDoor.Lay
