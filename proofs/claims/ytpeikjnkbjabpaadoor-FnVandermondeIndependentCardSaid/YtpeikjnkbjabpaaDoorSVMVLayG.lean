import Derived.Test.YtpeikjnkbjabpaaDoorRows
import Derived.Test.YtpeikjnkbjabpaaDoorSVV0
import Derived.Lib.LaidTab
import Derived.LaidMore
import Derived.LaidByTextLater
import Derived.LaidOnce
import Derived.Stop.LaidErr
import Derived.ProofKit
namespace Go.Proofs.YtpeikjnkbjabpaaDoor.Lay
open Go.RowKit Go.ChangeAt
def laid {H : Type} : List (String × DataW H) := [("pub-sarsen/pub/reedsolomon.logTable", Rows.laid_pub_sarsen_pub_reedsolomon_logTable), ("pub-sarsen/pub/reedsolomon.expTable", Rows.laid_pub_sarsen_pub_reedsolomon_expTable), ("pub-sarsen/pub/reedsolomon.errInvalidRowSize", Rows.laid_pub_sarsen_pub_reedsolomon_errInvalidRowSize), ("pub-sarsen/pub/reedsolomon.errInvalidColSize", Rows.laid_pub_sarsen_pub_reedsolomon_errInvalidColSize), ("pub-sarsen/pub/reedsolomon.errColSizeMismatch", Rows.laid_pub_sarsen_pub_reedsolomon_errColSizeMismatch), ("pub-sarsen/pub/reedsolomon.errMatrixSize", Rows.laid_pub_sarsen_pub_reedsolomon_errMatrixSize), ("pub-sarsen/pub/reedsolomon.errSingular", Rows.laid_pub_sarsen_pub_reedsolomon_errSingular), ("pub-sarsen/pub/reedsolomon.errNotSquare", Rows.laid_pub_sarsen_pub_reedsolomon_errNotSquare)]
def tabL : List Int := (List.range 256).map fun (n : Nat) => ((V.glog n : Nat) : Int)
def tabE : List Int := (List.range 256).map fun (n : Nat) => ((V.gpow n : Nat) : Int)
def litL : List Int := [0, 0, 1, 25, 2, 50, 26, 198, 3, 223, 51, 238, 27, 104, 199, 75, 4, 100, 224, 14, 52, 141, 239, 129, 28, 193, 105, 248, 200, 8, 76, 113, 5, 138, 101, 47, 225, 36, 15, 33, 53, 147, 142, 218, 240, 18, 130, 69, 29, 181, 194, 125, 106, 39, 249, 185, 201, 154, 9, 120, 77, 228, 114, 166, 6, 191, 139, 98, 102, 221, 48, 253, 226, 152, 37, 179, 16, 145, 34, 136, 54, 208, 148, 206, 143, 150, 219, 189, 241, 210, 19, 92, 131, 56, 70, 64, 30, 66, 182, 163, 195, 72, 126, 110, 107, 58, 40, 84, 250, 133, 186, 61, 202, 94, 155, 159, 10, 21, 121, 43, 78, 212, 229, 172, 115, 243, 167, 87, 7, 112, 192, 247, 140, 128, 99, 13, 103, 74, 222, 237, 49, 197, 254, 24, 227, 165, 153, 119, 38, 184, 180, 124, 17, 68, 146, 217, 35, 32, 137, 46, 55, 63, 209, 91, 149, 188, 207, 205, 144, 135, 151, 178, 220, 252, 190, 97, 242, 86, 211, 171, 20, 42, 93, 158, 132, 60, 57, 83, 71, 109, 65, 162, 31, 45, 67, 216, 183, 123, 164, 118, 196, 23, 73, 236, 127, 12, 111, 246, 108, 161, 59, 82, 41, 157, 85, 170, 251, 96, 134, 177, 187, 204, 62, 90, 203, 89, 95, 176, 156, 169, 160, 81, 11, 245, 22, 235, 122, 117, 44, 215, 79, 174, 213, 233, 230, 231, 173, 232, 116, 214, 244, 234, 168, 80, 88, 175]
def litE : List Int := [1, 2, 4, 8, 16, 32, 64, 128, 29, 58, 116, 232, 205, 135, 19, 38, 76, 152, 45, 90, 180, 117, 234, 201, 143, 3, 6, 12, 24, 48, 96, 192, 157, 39, 78, 156, 37, 74, 148, 53, 106, 212, 181, 119, 238, 193, 159, 35, 70, 140, 5, 10, 20, 40, 80, 160, 93, 186, 105, 210, 185, 111, 222, 161, 95, 190, 97, 194, 153, 47, 94, 188, 101, 202, 137, 15, 30, 60, 120, 240, 253, 231, 211, 187, 107, 214, 177, 127, 254, 225, 223, 163, 91, 182, 113, 226, 217, 175, 67, 134, 17, 34, 68, 136, 13, 26, 52, 104, 208, 189, 103, 206, 129, 31, 62, 124, 248, 237, 199, 147, 59, 118, 236, 197, 151, 51, 102, 204, 133, 23, 46, 92, 184, 109, 218, 169, 79, 158, 33, 66, 132, 21, 42, 84, 168, 77, 154, 41, 82, 164, 85, 170, 73, 146, 57, 114, 228, 213, 183, 115, 230, 209, 191, 99, 198, 145, 63, 126, 252, 229, 215, 179, 123, 246, 241, 255, 227, 219, 171, 75, 150, 49, 98, 196, 149, 55, 110, 220, 165, 87, 174, 65, 130, 25, 50, 100, 200, 141, 7, 14, 28, 56, 112, 224, 221, 167, 83, 166, 81, 162, 89, 178, 121, 242, 249, 239, 195, 155, 43, 86, 172, 69, 138, 9, 18, 36, 72, 144, 61, 122, 244, 245, 247, 243, 251, 235, 203, 139, 11, 22, 44, 88, 176, 125, 250, 233, 207, 131, 27, 54, 108, 216, 173, 71, 142, 1]
theorem litL_eq : litL = tabL := by decide +kernel
theorem litE_eq : litE = tabE := by decide +kernel
set_option maxRecDepth 100000 in
theorem is_tabL {H : Type} : (Rows.laid_pub_sarsen_pub_reedsolomon_logTable : DataW H) = Lib.tabData .u8 tabL := by rw [← litL_eq]; rfl
set_option maxRecDepth 100000 in
theorem is_tabE {H : Type} : (Rows.laid_pub_sarsen_pub_reedsolomon_expTable : DataW H) = Lib.tabData .u8 tabE := by rw [← litE_eq]; rfl
theorem getL (j : Nat) (h : j < 256) : tabL.getD j 0 = ((V.glog j : Nat) : Int) := by
  unfold tabL
  rw [List.getD_eq_getElem?_getD, List.getElem?_map, List.getElem?_range h]
  rfl
theorem getE (j : Nat) (h : j < 256) : tabE.getD j 0 = ((V.gpow j : Nat) : Int) := by
  unfold tabE
  rw [List.getD_eq_getElem?_getD, List.getElem?_map, List.getElem?_range h]
  rfl
theorem globF {W : World} (h : laidMetH Tryd.prog laid W) : V.GlobF W := by
  rw [MakeChecks.laidMetH_plain _ _ _ (by kernel_rfl)] at h
  unfold laid at h
  rw [is_tabL, is_tabE] at h
  have h1 : Lib.TabIs Tryd.prog W "pub-sarsen/pub/reedsolomon.logTable" .u8 tabL :=
    Lib.tabIs_of_head (g := 0) (t := 76) (e := 5) (n := 256) (by kernel_rfl) (by kernel_rfl) Tryd.underlying76 Tryd.underlying5 (by kernel_rfl) (by kernel_rfl) h
  have h2 : Lib.TabIs Tryd.prog W "pub-sarsen/pub/reedsolomon.expTable" .u8 tabE :=
    Lib.tabIs_of_head (g := 1) (t := 76) (e := 5) (n := 256) (by kernel_rfl) (by kernel_rfl) Tryd.underlying76 Tryd.underlying5 (by kernel_rfl) (by kernel_rfl) h.tail
  refine ⟨fun j hj => ?_, fun j hj => ?_⟩
  · rw [h1.cell (g := 0) (by kernel_rfl) j (by simp [tabL]; omega), getL j hj]
  · rw [h2.cell (g := 1) (by kernel_rfl) j (by simp [tabE]; omega), getE j hj]
theorem row84 (u : TypeId) (h : Tryd.prog.typeName? 3 u = some "*errors.errorString") : u = 84 :=
  typeName_ptr_named (nm := "errors.errorString") (by rw [show "*" ++ "errors.errorString" = "*errors.errorString" by decide]; kernel_rfl) (by kernel_rfl) (by decide) u (by rw [show "*" ++ "errors.errorString" = "*errors.errorString" by decide]; exact h)
theorem globE {W : World} (h : laidMetH Tryd.prog laid W) : V.GlobE W := by
  rw [MakeChecks.laidMetH_plain _ _ _ (by kernel_rfl)] at h
  unfold laid at h
  obtain ⟨a5, _, h5, _⟩ := laid_sentinel (g := 5) (ti := 52) (tp := 84) (te := 101) (ts := 9) h.tail.tail (by kernel_rfl) (by kernel_rfl) Tryd.underlying52 row84 Tryd.underlying84 Tryd.underlying101 rfl rfl Tryd.underlying9 (by kernel_rfl) (by kernel_rfl)
  obtain ⟨a6, _, h6, _⟩ := laid_sentinel (g := 6) (ti := 52) (tp := 84) (te := 101) (ts := 9) h.tail.tail.tail (by kernel_rfl) (by kernel_rfl) Tryd.underlying52 row84 Tryd.underlying84 Tryd.underlying101 rfl rfl Tryd.underlying9 (by kernel_rfl) (by kernel_rfl)
  obtain ⟨a7, _, h7, _⟩ := laid_sentinel (g := 7) (ti := 52) (tp := 84) (te := 101) (ts := 9) h.tail.tail.tail.tail (by kernel_rfl) (by kernel_rfl) Tryd.underlying52 row84 Tryd.underlying84 Tryd.underlying101 rfl rfl Tryd.underlying9 (by kernel_rfl) (by kernel_rfl)
  obtain ⟨a3, _, h3, _⟩ := laid_sentinel (g := 3) (ti := 52) (tp := 84) (te := 101) (ts := 9) h.tail.tail.tail.tail.tail (by kernel_rfl) (by kernel_rfl) Tryd.underlying52 row84 Tryd.underlying84 Tryd.underlying101 rfl rfl Tryd.underlying9 (by kernel_rfl) (by kernel_rfl)
  obtain ⟨a8, _, h8, _⟩ := laid_sentinel (g := 8) (ti := 52) (tp := 84) (te := 101) (ts := 9) h.tail.tail.tail.tail.tail.tail (by kernel_rfl) (by kernel_rfl) Tryd.underlying52 row84 Tryd.underlying84 Tryd.underlying101 rfl rfl Tryd.underlying9 (by kernel_rfl) (by kernel_rfl)
  obtain ⟨a4, _, h4, _⟩ := laid_sentinel (g := 4) (ti := 52) (tp := 84) (te := 101) (ts := 9) h.tail.tail.tail.tail.tail.tail.tail (by kernel_rfl) (by kernel_rfl) Tryd.underlying52 row84 Tryd.underlying84 Tryd.underlying101 rfl rfl Tryd.underlying9 (by kernel_rfl) (by kernel_rfl)
  refine ⟨fun g hg => ?_⟩
  simp only [List.mem_cons, List.not_mem_nil, or_false] at hg
  rcases hg with rfl | rfl | rfl | rfl | rfl | rfl
  · exact ⟨a3, World.var?_cell (by kernel_rfl) h3 0⟩
  · exact ⟨a4, World.var?_cell (by kernel_rfl) h4 0⟩
  · exact ⟨a5, World.var?_cell (by kernel_rfl) h5 0⟩
  · exact ⟨a6, World.var?_cell (by kernel_rfl) h6 0⟩
  · exact ⟨a7, World.var?_cell (by kernel_rfl) h7 0⟩
  · exact ⟨a8, World.var?_cell (by kernel_rfl) h8 0⟩
theorem laidMet_fast {P : Program} {w : World} {l : List (String × DataW Unit)} (fuel M : Nat)
    (h : (DataW.laidRun P w fuel (l.map (·.1))).bind (fun x => if nodupBits M x.2 0 && laidRowsB P w x.2 then some x.1 else none) = some l) : laidMet P l w := by
  cases hx : DataW.laidRun P w fuel (l.map (·.1)) with
  | none => simp [hx] at h
  | some x =>
    rw [hx, Option.bind_some] at h
    split at h
    · rename_i hb
      simp only [Bool.and_eq_true] at hb
      have h' : x.1 = l := Option.some.inj h
      refine laidMet_of_run (ps := x.2) fuel ?_ (decide_eq_true (nodupBits_sound hb.1).1) hb.2
      rw [hx, ← h']
    · cases h
theorem door_met (os : Os) (args : Array Value) : laidMetH Tryd.prog laid ((World.doorLaid Tryd.prog 400 os).forCall (fun _ _ => 0) ⟨#[], args, []⟩).memory :=
  laidMetH_of_parts3 (fuel := 8) (laidMet_fast 8 400 (by kernel_rfl)) (by kernel_rfl) (by kernel_rfl)
end Go.Proofs.YtpeikjnkbjabpaaDoor.Lay
