/-
  The field of 256 elements by its tables: logarithms and powers undo each other; a product is 0 only if a factor is.
-/
import Derived.Test.YtpeikjnkbjabpaaDoorLay
namespace Go.Proofs.YtpeikjnkbjabpaaDoor.Pure
open Go.RowKit Go.Proofs.YtpeikjnkbjabpaaDoor.X Go.Proofs.YtpeikjnkbjabpaaDoor.Lay
set_option linter.unusedVariables false

def lg (a : Nat) : Nat := (litL.getD a 0).toNat
def pw (n : Nat) : Nat := (litE.getD n 0).toNat
theorem lg_eq (a : Nat) (h : a < 256) : glog a = lg a := by
  unfold lg
  rw [litL_eq, getL a h, Int.toNat_natCast]
theorem pw_eq (n : Nat) (h : n < 256) : gpow n = pw n := by
  unfold pw
  rw [litE_eq, getE n h, Int.toNat_natCast]
set_option maxRecDepth 100000 in
theorem undo : ∀ n : Fin 255, lg (pw n.val) = n.val ∧ pw n.val ≠ 0 := by decide +kernel
theorem glog_gpow (n : Nat) (h : n < 255) : glog (gpow n) = n := by
  rw [lg_eq _ (gpow_lt n (by omega)), pw_eq n (by omega)]
  exact (undo ⟨n, h⟩).1
theorem gpow_ne (n : Nat) (h : n < 255) : gpow n ≠ 0 := by
  rw [pw_eq n (by omega)]
  exact (undo ⟨n, h⟩).2
theorem gpow_inj {m n : Nat} (hm : m < 255) (hn : n < 255) (h : gpow m = gpow n) : m = n := by
  rw [← glog_gpow m hm, h, glog_gpow n hn]
theorem gmul_zero (a b : Nat) : gmul a b = 0 ↔ a = 0 ∨ b = 0 := by
  have ha := glog_lt a
  have hb := glog_lt b
  unfold gmul
  by_cases h : a = 0 ∨ b = 0
  · rw [if_pos h]
    exact ⟨fun _ => h, fun _ => rfl⟩
  · rw [if_neg h]
    refine ⟨fun h0 => ?_, fun h1 => absurd h1 h⟩
    split at h0
    · exact absurd h0 (gpow_ne _ (by omega))
    · exact absurd h0 (gpow_ne _ (by omega))
theorem gmul_lt (a b : Nat) : gmul a b < 256 := by
  have ha := glog_lt a
  have hb := glog_lt b
  unfold gmul
  split
  · decide
  · split
    · exact gpow_lt _ (by omega)
    · exact gpow_lt _ (by omega)
def gm (a b : Nat) : Nat := if a = 0 ∨ b = 0 then 0 else pw (if 255 ≤ lg a + lg b then lg a + lg b - 255 else lg a + lg b)
theorem gm_eq (a b : Nat) (h1 : a < 256) (h2 : b < 256) : gmul a b = gm a b := by
  have ha := glog_lt a
  have hb := glog_lt b
  unfold gmul gm
  rw [lg_eq a h1, lg_eq b h2] at *
  split
  · rfl
  · split
    · exact pw_eq _ (by omega)
    · exact pw_eq _ (by omega)
end Go.Proofs.YtpeikjnkbjabpaaDoor.Pure
