import Derived.Test.YtpeikjnkbjabpaaDoorSVMVPartE
import Derived.Test.YtpeikjnkbjabpaaDoorSVMVMulE
import Derived.Test.YtpeikjnkbjabpaaDoorSVMVGaussE
namespace Go.Proofs.YtpeikjnkbjabpaaDoor.V
open Go.RowKit Go.Proofs.YtpeikjnkbjabpaaDoorW.PrintWords Go.Proofs.YtpeikjnkbjabpaaDoorW.PrintLast Go.Proofs.YtpeikjnkbjabpaaDoorW.PrintMore
set_option linter.unusedVariables false
def nm (r c : Nat) (M : Nat → Nat → Nat) : List (List Int) := mat r c (fun i j => ((M i j : Nat) : Int))
theorem xor_n (a b : E) : Go.bits .xor .u8 ((a.n : Nat) : Int) ((b.n : Nat) : Int) = (((a + b).n : Nat) : Int) := u8_xor_nat a.n b.n a.lt b.lt
theorem mulE_ev (a b : E) : Ev (fun k => spec_Mul.f k ((a.n : Nat) : Int) ((b.n : Nat) : Int)) (((a * b).n : Nat) : Int) := mul_ev a.n b.n a.lt b.lt
theorem to_n {M : Nat → Nat → Nat} (h : Byt M) (i j : Nat) : (toE M i j).n = M i j := el_n (h i j)
theorem zeros_ev (r c : Nat) (hr1 : r ≤ 1000000) (hc1 : c ≤ 1000000) : Ev (fun k => spec_Zeros.f k (r : Int) (c : Int)) (mat r c (fun _ _ => 0)) := by
  unfold spec_Zeros.f
  simp only [if_pos (show (0 : Int) ≤ (r : Int) by omega), Option.bind_some, Int.toNat_natCast, List.length_replicate, if_pos (show r ≤ 11728124029610 by omega)]
  have h := for_ev0 (fun k (s : List (List Int)) i => spec_Zeros.l0 k (c : Int) s (r : Int) i) r (fun i => tab r (fun t => if t < i then tab c (fun _ => 0) else [])) (mat r c (fun _ _ => 0))
    (Ev.now1 fun k => by
      simp only [spec_Zeros.l0]
      rw [if_neg (by omega)]
      congr 1
      exact tab_ext _ _ _ fun i hi => if_pos hi)
    (fun i hi h => by
      refine Ev.step (fun k => ?_) h
      simp only [spec_Zeros.l0]
      rw [if_pos (by omega), if_pos (by omega), if_pos (by omega), if_pos (by omega), if_pos (by rw [tab_length]; omega), wr1 i (by omega), Int.toNat_natCast, Int.toNat_natCast, tab_set, tab_replicate]
      congr 1
      refine tab_ext _ _ _ fun t ht => ?_
      by_cases e : t = i
      · subst e; rw [if_pos rfl, if_pos (by omega)]
      · rw [if_neg e]
        by_cases h2 : t < i
        · rw [if_pos h2, if_pos (by omega)]
        · rw [if_neg h2, if_neg (by omega)])
  have e : (tab r (fun t => if t < 0 then tab c (fun _ => (0 : Int)) else [])) = List.replicate r [] := by
    rw [tab_replicate]
    exact tab_ext _ _ _ fun i _ => if_neg (by omega)
  rw [e] at h
  exact h
def idN : Nat → Nat → Nat := fun i j => if i = j then 1 else 0
def dg (t : Nat) : Nat → Nat → Int := fun i j => if i = j ∧ i < t then 1 else 0
theorem dg_step (n t : Nat) (ht : t < n) : (mat n n (dg t)).set t ((rd_L1 (mat n n (dg t)) (t : Int)).set t 1) = mat n n (dg (t + 1)) := by
  rw [mat_row _ _ _ _ ht, mat_store _ _ _ _ _ _ ht]
  refine mat_ext _ _ _ _ fun i hi j hj => ?_
  unfold upd dg
  by_cases e : i = t ∧ j = t
  · rw [if_pos e, if_pos (by omega)]
  · rw [if_neg e]
    by_cases e2 : i = j ∧ i < t
    · rw [if_pos e2, if_pos (by omega)]
    · rw [if_neg e2, if_neg (by omega)]
theorem dg_full (n : Nat) : mat n n (dg n) = nm n n idN := by
  refine mat_ext _ _ _ _ fun i hi j hj => ?_
  unfold dg idN
  by_cases e : i = j
  · rw [if_pos ⟨e, hi⟩, if_pos e]; rfl
  · rw [if_neg (fun h => e h.1), if_neg e]; rfl
theorem dg_zero (n : Nat) : mat n n (fun _ _ => 0) = mat n n (dg 0) := by
  refine mat_ext _ _ _ _ fun i hi j hj => ?_
  unfold dg
  rw [if_neg (by omega)]
theorem identity_ev (n : Nat) (h0 : 0 < n) (hn : n ≤ 1000) : Ev (fun k => reedsolomon_identityMatrix.f k (n : Int)) (nm n n idN, none) := by
  unfold reedsolomon_identityMatrix.f
  refine Ev.bind (newMatrix_ev n n h0 h0 (by omega) (by omega)) ?_
  simp only [Option.isNone_none, if_true]
  rw [mat_length]
  have h := for_ev0 (fun k (s : List (List Int)) i => reedsolomon_identityMatrix.l0 k s (n : Int) i) n (fun i => mat n n (dg i)) (nm n n idN, none)
    (Ev.now1 fun k => by simp only [reedsolomon_identityMatrix.l0]; rw [if_neg (by omega), dg_full])
    (fun i hi h => by
      refine Ev.step (fun k => ?_) h
      simp only [reedsolomon_identityMatrix.l0]
      rw [if_pos (by omega), if_pos (by omega), if_pos (by rw [mat_length]; omega), if_pos (by rw [lens_of_mat _ _ _ _ hi]; omega), Int.toNat_natCast, dg_step n i hi, wr1 i (by omega)])
  rw [← dg_zero] at h
  exact h
end Go.Proofs.YtpeikjnkbjabpaaDoor.V
