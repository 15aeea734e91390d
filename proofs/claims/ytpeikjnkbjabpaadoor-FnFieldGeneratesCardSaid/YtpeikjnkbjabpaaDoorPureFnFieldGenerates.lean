/-
  The powers of the element 2: equal exactly if the exponents leave the same rest by 255, and none is 0.
-/
import Derived.Test.YtpeikjnkbjabpaaDoorTabs
import Derived.Test.YtpeikjnkbjabpaaDoorX1
import Derived.Test.YtpeikjnkbjabpaaDoorM0
namespace Go.Proofs.YtpeikjnkbjabpaaDoor.Pure
open Go.RowKit Go.Proofs.YtpeikjnkbjabpaaDoor.X Go.Proofs.YtpeikjnkbjabpaaDoor.Lay Go.Proofs.YtpeikjnkbjabpaaDoorM
set_option linter.unusedVariables false

theorem glog_two : glog 2 = 1 := glog_gpow 1 (by decide)
theorem gexp_two (n : Nat) : gexp 2 n = gpow (n % 255) := by
  unfold gexp
  by_cases h : n = 0
  · subst h; rfl
  · rw [if_neg h, if_neg (by decide), glog_two, Nat.one_mul]
theorem exp_two (n : Nat) (h : n ≤ 100000) : impl_Exp.f 2 (n : Int) = some (((gpow (n % 255) : Nat) : Int), true) := by
  unfold impl_Exp.f reedsolomon_DoorExp.f reedsolomon_galExp.f
  rw [if_neg (by omega), if_neg (by omega), if_pos (by decide), if_pos (by decide), if_pos (by omega), if_pos (by omega)]
  rw [Option.bind_some, Option.bind_some, Int.toNat_natCast, show (2 : Int).toNat = 2 from rfl, gexp_two]
theorem core (m n : Nat) (hm : m ≤ 100000) (hn : n ≤ 100000) (k : Nat) : laws_FnFieldGenerates.j0 (k + 1) (m : Int) (n : Int) false = some true := by
  have h1 : m % 255 < 255 := Nat.mod_lt _ (by decide)
  have h2 : n % 255 < 255 := Nat.mod_lt _ (by decide)
  have h3 := gpow_ne _ h1
  have h4 : gpow (m % 255) = gpow (n % 255) ↔ m % 255 = n % 255 := ⟨gpow_inj h1 h2, fun h => by rw [h]⟩
  simp only [laws_FnFieldGenerates.j0]
  rw [if_neg (by decide), exp_two m hm, exp_two n hn]
  rw [show Int.tmod (m : Int) 255 = ((m % 255 : Nat) : Int) from rfl, show Int.tmod (n : Int) 255 = ((n % 255 : Nat) : Int) from rfl]
  generalize gpow (m % 255) = x at *
  generalize gpow (n % 255) = y at *
  rw [Option.bind_some, Option.bind_some]
  dsimp only
  rw [if_pos rfl, if_pos rfl, if_neg (by omega)]
  have e1 : ((x : Int) == (y : Int)) = decide (x = y) := by
    rw [Bool.eq_iff_iff]; simp only [beq_iff_eq, decide_eq_true_eq]; omega
  have e2 : (((m % 255 : Nat) : Int) == ((n % 255 : Nat) : Int)) = decide (m % 255 = n % 255) := by
    rw [Bool.eq_iff_iff]; simp only [beq_iff_eq, decide_eq_true_eq]; omega
  rw [e1, e2]
  have e3 : decide (x = y) = decide (m % 255 = n % 255) := by rw [decide_eq_decide]; exact h4
  rw [e3]
  simp

theorem FnFieldGenerates : laws_FnFieldGenerates.Pure := by
  intro a0 a1 w0 w1
  refine ⟨0 + 1, ?_⟩
  have yes : laws_FnFieldGenerates.j0 (0 + 1) a0 a1 true = some true := by
    simp only [laws_FnFieldGenerates.j0]
    rw [if_pos trivial]
  unfold laws_FnFieldGenerates.f
  by_cases h1 : a0 < 0
  · rw [if_pos h1]; exact yes
  rw [if_neg h1]
  by_cases h2 : a0 > 100000
  · rw [if_pos h2]; exact yes
  rw [if_neg h2]
  by_cases h3 : a1 < 0
  · rw [if_pos h3]; exact yes
  rw [if_neg h3]
  by_cases h4 : a1 > 100000
  · rw [decide_eq_true h4]; exact yes
  · rw [decide_eq_false h4]
    obtain ⟨m, rfl⟩ := Int.eq_ofNat_of_zero_le (show 0 ≤ a0 by omega)
    obtain ⟨n, rfl⟩ := Int.eq_ofNat_of_zero_le (show 0 ≤ a1 by omega)
    exact core m n (by omega) (by omega) 0
end Go.Proofs.YtpeikjnkbjabpaaDoor.Pure
