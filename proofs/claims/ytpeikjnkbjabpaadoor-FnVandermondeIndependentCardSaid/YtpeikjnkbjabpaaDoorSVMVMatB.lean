import Derived.Test.YtpeikjnkbjabpaaDoorSVV10
namespace Go.Proofs.YtpeikjnkbjabpaaDoor.V
open Go.RowKit Go.Proofs.YtpeikjnkbjabpaaDoorW.PrintWords Go.Proofs.YtpeikjnkbjabpaaDoorW.PrintLast Go.Proofs.YtpeikjnkbjabpaaDoorW.PrintMore
set_option linter.unusedVariables false
theorem for_ev {σ ρ : Type} (l : Nat → σ → Int → Option ρ) (n : Nat) (s : Nat → σ) (r : ρ) (fin : Ev (fun k => l k (s n) (n : Int)) r)
    (step : ∀ i, i < n → Ev (fun k => l k (s (i + 1)) ((i + 1 : Nat) : Int)) r → Ev (fun k => l k (s i) (i : Int)) r) : ∀ d i, i + d = n → Ev (fun k => l k (s i) (i : Int)) r := by
  intro d
  induction d with
  | zero => intro i hi; obtain rfl : i = n := by omega
            exact fin
  | succ d ih => intro i hi; exact step i (by omega) (ih (i + 1) (by omega))
theorem for_ev0 {σ ρ : Type} (l : Nat → σ → Int → Option ρ) (n : Nat) (s : Nat → σ) (r : ρ) (fin : Ev (fun k => l k (s n) (n : Int)) r)
    (step : ∀ i, i < n → Ev (fun k => l k (s (i + 1)) ((i + 1 : Nat) : Int)) r → Ev (fun k => l k (s i) (i : Int)) r) : Ev (fun k => l k (s 0) 0) r := for_ev l n s r fin step n 0 (by omega)
theorem all_ev {ρ : Type} (l : Nat → Int → Option ρ) (p : Nat → Prop) [DecidablePred p] (n : Nat) (A B : ρ) (fin : Ev (fun k => l k (n : Int)) A)
    (yes : ∀ i, i < n → p i → ∀ k, l (k + 1) (i : Int) = l k ((i + 1 : Nat) : Int)) (no : ∀ i, i < n → ¬ p i → Ev (fun k => l k (i : Int)) B) :
    ∀ d i, i + d = n → Ev (fun k => l k (i : Int)) (if ∀ j, j < n → i ≤ j → p j then A else B) := by
  intro d
  induction d with
  | zero => intro i hi; obtain rfl : i = n := by omega
            rw [if_pos (by intro j h1 h2; omega)]; exact fin
  | succ d ih =>
    intro i hi
    by_cases hp : p i
    · have h := Ev.step (g := fun k => l k (i : Int)) (yes i (by omega) hp) (ih (i + 1) (by omega))
      have e : (∀ j, j < n → i ≤ j → p j) ↔ (∀ j, j < n → i + 1 ≤ j → p j) := by
        constructor
        · intro h j h1 h2; exact h j h1 (by omega)
        · intro h j h1 h2
          by_cases e : j = i
          · subst e; exact hp
          · exact h j h1 (by omega)
      by_cases hc : ∀ j, j < n → i ≤ j → p j
      · rw [if_pos hc]; rw [if_pos (e.1 hc)] at h; exact h
      · rw [if_neg hc]; rw [if_neg (fun h' => hc (e.2 h'))] at h; exact h
    · rw [if_neg (fun h => hp (h i (by omega) (Nat.le_refl _)))]
      exact no i (by omega) hp
theorem all_ev0 {ρ : Type} (l : Nat → Int → Option ρ) (p : Nat → Prop) [DecidablePred p] (n : Nat) (A B : ρ) (fin : Ev (fun k => l k (n : Int)) A)
    (yes : ∀ i, i < n → p i → ∀ k, l (k + 1) (i : Int) = l k ((i + 1 : Nat) : Int)) (no : ∀ i, i < n → ¬ p i → Ev (fun k => l k (i : Int)) B) :
    Ev (fun k => l k 0) (if ∀ j, j < n → p j then A else B) := by
  have h := all_ev l p n A B fin yes no n 0 (by omega)
  by_cases hc : ∀ j, j < n → p j
  · rw [if_pos hc]; rw [if_pos (fun j h1 _ => hc j h1)] at h; exact h
  · rw [if_neg hc]; rw [if_neg (fun h' => hc fun j h1 => h' j h1 (Nat.zero_le _))] at h; exact h
theorem Ev.at {α : Type} {g : Nat → Option α} {r : α} (h : Ev g r) : Ev (fun k => g (k + 1)) r := by
  obtain ⟨K, h⟩ := h
  exact ⟨K, fun k hk => h (k + 1) (by omega)⟩
theorem Ev.now1 {α : Type} {g : Nat → Option α} {r : α} (h : ∀ k, g (k + 1) = some r) : Ev g r := Ev.step (f := fun _ => some r) h (Ev.now r)
theorem wr1 (n : Nat) (h : n < 4611686018427387904) : wrap64 ((n : Int) + 1) = ((n + 1 : Nat) : Int) := by unfold wrap64; omega
theorem wrap_id (x : Int) (h1 : -4611686018427387904 ≤ x) (h2 : x < 4611686018427387904) : wrap64 x = x := by unfold wrap64; omega
theorem rd_L1_nat (xs : List (List Int)) (i : Nat) : rd_L1 xs (i : Int) = xs.getD i [] := by unfold rd_L1; rw [Int.toNat_natCast]
theorem rd_nat (xs : List Int) (i : Nat) : rd xs (i : Int) = xs.getD i 0 := by unfold rd; rw [Int.toNat_natCast]
theorem take_snoc {α : Type} (l : List α) (z : α) (i : Nat) (h : i < l.length) : l.take i ++ [l.getD i z] = l.take (i + 1) := by
  rw [List.take_add_one, List.getD_eq_getElem?_getD, List.getElem?_eq_getElem h]; rfl
def tab {α : Type} (n : Nat) (f : Nat → α) : List α := (List.range n).map f
theorem tab_length {α : Type} (n : Nat) (f : Nat → α) : (tab n f).length = n := by simp [tab]
theorem tab_get {α : Type} (n : Nat) (f : Nat → α) (i : Nat) (h : i < n) (z : α) : (tab n f).getD i z = f i := by
  simp [tab, List.getD_eq_getElem?_getD, h]
theorem tab_ext {α : Type} (n : Nat) (f g : Nat → α) (h : ∀ i, i < n → f i = g i) : tab n f = tab n g := by
  unfold tab
  exact List.map_congr_left fun i hi => h i (List.mem_range.1 hi)
theorem tab_set {α : Type} (n : Nat) (f : Nat → α) (i : Nat) (v : α) : (tab n f).set i v = tab n (fun j => if j = i then v else f j) := by
  apply List.ext_getElem
  · simp [tab]
  · intro j h1 h2
    simp only [tab, List.getElem_set, List.getElem_map, List.getElem_range]
    by_cases e : i = j
    · subst e; simp
    · rw [if_neg e, if_neg (Ne.symm e)]
theorem tab_of {α : Type} (l : List α) (z : α) : l = tab l.length (fun i => l.getD i z) := by
  apply List.ext_getElem
  · simp [tab]
  · intro j h1 h2
    simp [tab, List.getD_eq_getElem?_getD, h1]
theorem tab_replicate {α : Type} (n : Nat) (z : α) : List.replicate n z = tab n (fun _ => z) := by
  apply List.ext_getElem
  · simp [tab]
  · intro j h1 h2; simp [tab]
theorem tab_take {α : Type} (n m : Nat) (f : Nat → α) (h : m ≤ n) : (tab n f).take m = tab m f := by
  apply List.ext_getElem
  · simp [tab]; omega
  · intro j h1 h2; simp [tab]
theorem tab_snoc {α : Type} (n : Nat) (f : Nat → α) : tab n f ++ [f n] = tab (n + 1) f := by
  unfold tab; rw [List.range_succ, List.map_append]; rfl
def mat (r c : Nat) (M : Nat → Nat → Int) : List (List Int) := tab r (fun i => tab c (M i))
def upd (M : Nat → Nat → Int) (i j : Nat) (v : Int) : Nat → Nat → Int := fun a b => if a = i ∧ b = j then v else M a b
theorem mat_ext (r c : Nat) (M M' : Nat → Nat → Int) (h : ∀ i, i < r → ∀ j, j < c → M i j = M' i j) : mat r c M = mat r c M' := tab_ext _ _ _ fun i hi => tab_ext _ _ _ fun j hj => h i hi j hj
theorem mat_length (r c : Nat) (M : Nat → Nat → Int) : (mat r c M).length = r := tab_length _ _
theorem mat_row (r c : Nat) (M : Nat → Nat → Int) (i : Nat) (h : i < r) : rd_L1 (mat r c M) (i : Int) = tab c (M i) := by rw [rd_L1_nat]; exact tab_get _ _ _ h _
theorem mat_row0 (r c : Nat) (M : Nat → Nat → Int) (h : 0 < r) : rd_L1 (mat r c M) 0 = tab c (M 0) := mat_row r c M 0 h
theorem row_at (c : Nat) (R : Nat → Int) (j : Nat) (h : j < c) : rd (tab c R) (j : Int) = R j := by rw [rd_nat]; exact tab_get _ _ _ h _
theorem mat_store (r c : Nat) (M : Nat → Nat → Int) (i j : Nat) (v : Int) (hi : i < r) : (mat r c M).set i ((tab c (M i)).set j v) = mat r c (upd M i j v) := by
  unfold mat
  rw [tab_set, tab_set]
  refine tab_ext _ _ _ fun a ha => ?_
  by_cases e : a = i
  · subst e
    rw [if_pos rfl]
    refine tab_ext _ _ _ fun b hb => ?_
    unfold upd
    by_cases e : b = j
    · rw [if_pos e, if_pos ⟨rfl, e⟩]
    · rw [if_neg e, if_neg (fun h => e h.2)]
  · rw [if_neg e]
    refine tab_ext _ _ _ fun b hb => ?_
    unfold upd
    rw [if_neg (fun h => e h.1)]
theorem lens_of_mat (r c : Nat) (M : Nat → Nat → Int) (i : Nat) (h : i < r) : (rd_L1 (mat r c M) (i : Int)).length = c := by rw [mat_row r c M i h]; exact tab_length _ _
def Rect (l : List (List Int)) : Prop := 0 < l.length ∧ 0 < (rd_L1 l 0).length ∧ ∀ i, i < l.length → (rd_L1 l (i : Int)).length = (rd_L1 l 0).length
instance (l : List (List Int)) : Decidable (Rect l) := by unfold Rect; infer_instance
theorem rect_mat (r c : Nat) (M : Nat → Nat → Int) (hr : 0 < r) (hc : 0 < c) : Rect (mat r c M) := by
  have h0 : (rd_L1 (mat r c M) 0).length = c := lens_of_mat r c M 0 hr
  refine ⟨by rw [mat_length]; exact hr, by rw [h0]; exact hc, fun i hi => ?_⟩
  rw [mat_length] at hi
  rw [h0, lens_of_mat r c M i hi]
theorem check_ev (l : List (List Int)) (hl : l.length ≤ 1000000) : Ev (fun k => reedsolomon_matrix_Check.f k l) (if Rect l then none else some 0) := by
  unfold reedsolomon_matrix_Check.f
  by_cases h0 : (l.length : Int) = 0
  · rw [if_neg (fun h : Rect l => by have := h.1; omega)]
    simp only [if_pos h0]; exact Ev.now _
  simp only [if_neg h0, if_pos (show 0 < (l.length : Int) by omega)]
  by_cases h1 : ((rd_L1 l 0).length : Int) = 0
  · rw [if_neg (fun h : Rect l => by have := h.2.1; omega)]
    simp only [if_pos h1]; exact Ev.now _
  simp only [if_neg h1]
  have h := all_ev0 (fun k i => reedsolomon_matrix_Check.l0 k ((rd_L1 l 0).length : Int) l (l.length : Int) i) (fun i => (rd_L1 l (i : Int)).length = (rd_L1 l 0).length) l.length none (some 0)
    (Ev.now1 fun k => by simp only [reedsolomon_matrix_Check.l0]; rw [if_neg (by omega)])
    (fun i hi hp k => by
      simp only [reedsolomon_matrix_Check.l0]
      rw [if_pos (by omega), if_pos (by omega), if_pos (by omega), if_pos (by omega), wr1 i (by omega)])
    (fun i hi hp => Ev.now1 fun k => by
      simp only [reedsolomon_matrix_Check.l0]
      rw [if_pos (by omega), if_pos (by omega), if_pos (by omega), if_neg (by omega)])
  by_cases hr : Rect l
  · rw [if_pos hr]; rw [if_pos hr.2.2] at h; exact h
  · rw [if_neg hr]
    rw [if_neg (fun h' => hr ⟨by omega, by omega, h'⟩)] at h; exact h
theorem isMatrix_ev (l : List (List Int)) (hl : l.length ≤ 1000000) : Ev (fun k => impl_isMatrix.f k l) (decide (Rect l)) := by
  unfold impl_isMatrix.f reedsolomon_DoorCheck.f
  by_cases hr : Rect l
  · have h := check_ev l hl
    rw [if_pos hr] at h
    rw [decide_eq_true hr]
    refine Ev.bind (a := none) (Ev.bind h (Ev.now _)) ?_
    exact Ev.now _
  · have h := check_ev l hl
    rw [if_neg hr] at h
    rw [decide_eq_false hr]
    refine Ev.bind (a := some 0) (Ev.bind h (Ev.now _)) ?_
    exact Ev.now _
theorem columns_f (l : List (List Int)) : spec_Columns.f l = some ((rd_L1 l 0).length : Int) := by
  unfold spec_Columns.f
  by_cases h0 : (l.length : Int) = 0
  · rw [if_pos h0]
    obtain rfl : l = [] := List.length_eq_zero_iff.1 (by omega)
    rfl
  · rw [if_neg h0, if_pos (by omega)]
theorem rows_ev (l : List (List Int)) (hl : l.length ≤ 1000000) (hc : ∀ i, i < l.length → (rd_L1 l (i : Int)).length ≤ 1000000) : Ev (fun k => impl_rows.f k l) l := by
  unfold impl_rows.f
  have h := for_ev0 (fun k (s : List (List Int)) i => impl_rows.l0 k s l (l.length : Int) i) l.length (fun i => l.take i) l
    (Ev.now1 fun k => by simp only [impl_rows.l0]; rw [if_neg (by omega), List.take_length])
    (fun i hi h => by
      refine Ev.step (fun k => ?_) h
      have hb := hc i hi
      have e : l.take i ++ [rd_L1 l (i : Int)] = l.take (i + 1) := by rw [rd_L1_nat]; exact take_snoc l [] i hi
      simp only [impl_rows.l0]
      rw [if_pos (by omega), if_pos (by omega), if_pos (by omega), if_pos (by simp; omega), if_pos (by simp; omega), List.nil_append, e, wr1 i (by omega)])
  exact h
theorem newMatrix_ev (r c : Nat) (hr : 0 < r) (hc : 0 < c) (hr1 : r ≤ 1000000) (hc1 : c ≤ 1000000) : Ev (fun k => reedsolomon_newMatrix.f k (r : Int) (c : Int)) (mat r c (fun _ _ => 0), none) := by
  unfold reedsolomon_newMatrix.f
  simp only [if_neg (show ¬ ((r : Int) ≤ 0) by omega), if_neg (show ¬ ((c : Int) ≤ 0) by omega), if_pos (show (0 : Int) ≤ (r : Int) by omega), Option.bind_some, Int.toNat_natCast, List.length_replicate, if_pos (show r ≤ 11728124029610 by omega)]
  have h := for_ev0 (fun k (s : List (List Int)) i => reedsolomon_newMatrix.l0 k (c : Int) s (r : Int) i) r (fun i => tab r (fun t => if t < i then tab c (fun _ => 0) else [])) (mat r c (fun _ _ => 0), none)
    (Ev.now1 fun k => by
      simp only [reedsolomon_newMatrix.l0]
      rw [if_neg (by omega)]
      congr 2
      exact tab_ext _ _ _ fun i hi => if_pos hi)
    (fun i hi h => by
      refine Ev.step (fun k => ?_) h
      simp only [reedsolomon_newMatrix.l0]
      rw [if_pos (by omega), if_pos (by omega), if_pos (by omega), if_pos (by omega), if_pos (by rw [tab_length]; omega), wr1 i (by omega), Int.toNat_natCast, Int.toNat_natCast, tab_set, tab_replicate]
      congr 1
      refine tab_ext _ _ _ fun t ht => ?_
      by_cases e : t = i
      · subst e; rw [if_pos rfl, if_pos (by omega)]
      · rw [if_neg e]
        by_cases h2 : t < i
        · rw [if_pos h2, if_pos (by omega)]
        · rw [if_neg h2, if_neg (by omega)])
  have e : (tab r (fun t => if t < 0 then tab c (fun _ => (0 : Int)) else [])) = List.replicate r [] := by
    rw [tab_replicate]; exact tab_ext _ _ _ fun i hi => if_neg (by omega)
  rw [e] at h
  exact h
end Go.Proofs.YtpeikjnkbjabpaaDoor.V
