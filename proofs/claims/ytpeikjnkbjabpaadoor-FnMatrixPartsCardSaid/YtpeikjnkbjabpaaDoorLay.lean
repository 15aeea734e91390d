/-
  The listed errors of the matrices' package, as the row of FnMatrixParts lists them, and what a walk reads of them.
-/
import Derived.Test.YtpeikjnkbjabpaaDoorRows
import Derived.Test.YtpeikjnkbjabpaaDoorX0
import Derived.LaidMore
import Derived.LaidByTextLater
import Derived.LaidOnce
import Derived.Stop.LaidErr
import Derived.ProofKit
namespace Go.Proofs.YtpeikjnkbjabpaaDoor.Lay
open Go.RowKit Go.ChangeAt

def laid {H : Type} : List (String × DataW H) := [("pub-sarsen/pub/reedsolomon.errInvalidRowSize", Rows.laid_pub_sarsen_pub_reedsolomon_errInvalidRowSize), ("pub-sarsen/pub/reedsolomon.errInvalidColSize", Rows.laid_pub_sarsen_pub_reedsolomon_errInvalidColSize), ("pub-sarsen/pub/reedsolomon.errColSizeMismatch", Rows.laid_pub_sarsen_pub_reedsolomon_errColSizeMismatch), ("pub-sarsen/pub/reedsolomon.errMatrixSize", Rows.laid_pub_sarsen_pub_reedsolomon_errMatrixSize)]
theorem row84 (u : TypeId) (h : Tryd.prog.typeName? 3 u = some "*errors.errorString") : u = 84 :=
  typeName_ptr_named (nm := "errors.errorString") (by rw [show "*" ++ "errors.errorString" = "*errors.errorString" by decide]; kernel_rfl) (by kernel_rfl) (by decide) u (by rw [show "*" ++ "errors.errorString" = "*errors.errorString" by decide]; exact h)
theorem globE {W : World} (h : laidMetH Tryd.prog laid W) : X.GlobE W := by
  rw [MakeChecks.laidMetH_plain _ _ _ (by kernel_rfl)] at h
  unfold laid at h
  obtain ⟨a0, _, h0, _⟩ := laid_sentinel (g := 5) (ti := 52) (tp := 84) (te := 101) (ts := 9) h (by kernel_rfl) (by kernel_rfl) Tryd.underlying52 row84 Tryd.underlying84 Tryd.underlying101 rfl rfl Tryd.underlying9 (by kernel_rfl) (by kernel_rfl)
  obtain ⟨a1, _, h1, _⟩ := laid_sentinel (g := 6) (ti := 52) (tp := 84) (te := 101) (ts := 9) h.tail (by kernel_rfl) (by kernel_rfl) Tryd.underlying52 row84 Tryd.underlying84 Tryd.underlying101 rfl rfl Tryd.underlying9 (by kernel_rfl) (by kernel_rfl)
  obtain ⟨a2, _, h2, _⟩ := laid_sentinel (g := 7) (ti := 52) (tp := 84) (te := 101) (ts := 9) h.tail.tail (by kernel_rfl) (by kernel_rfl) Tryd.underlying52 row84 Tryd.underlying84 Tryd.underlying101 rfl rfl Tryd.underlying9 (by kernel_rfl) (by kernel_rfl)
  obtain ⟨a3, _, h3, _⟩ := laid_sentinel (g := 3) (ti := 52) (tp := 84) (te := 101) (ts := 9) h.tail.tail.tail (by kernel_rfl) (by kernel_rfl) Tryd.underlying52 row84 Tryd.underlying84 Tryd.underlying101 rfl rfl Tryd.underlying9 (by kernel_rfl) (by kernel_rfl)
  refine ⟨fun g hg => ?_⟩
  simp only [List.mem_cons, List.not_mem_nil, or_false] at hg
  rcases hg with rfl | rfl | rfl | rfl
  · exact ⟨a3, World.var?_cell (by kernel_rfl) h3 0⟩
  · exact ⟨a0, World.var?_cell (by kernel_rfl) h0 0⟩
  · exact ⟨a1, World.var?_cell (by kernel_rfl) h1 0⟩
  · exact ⟨a2, World.var?_cell (by kernel_rfl) h2 0⟩
theorem door_met (os : Os) (args : Array Value) : laidMetH Tryd.prog laid ((World.doorLaid Tryd.prog 400 os).forCall (fun _ _ => 0) ⟨#[], args, []⟩).memory :=
  laidMetH_of_parts3 (fuel := 8) (laidMet_of_run' 8 (by kernel_rfl) (by kernel_rfl)) (by kernel_rfl) (by kernel_rfl)
end Go.Proofs.YtpeikjnkbjabpaaDoor.Lay
