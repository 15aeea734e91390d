/-
  Loops that end, and lists told by their entries.
-/
import Derived.Test.YtpeikjnkbjabpaaDoorN2
namespace Go.Proofs.YtpeikjnkbjabpaaDoor.N
open Go.RowKit Go.Proofs.YtpeikjnkbjabpaaDoorW.PrintWords Go.Proofs.YtpeikjnkbjabpaaDoorW.PrintLast Go.Proofs.YtpeikjnkbjabpaaDoorW.PrintMore
set_option linter.unusedVariables false

/-! ### loops -/
theorem for_ev {σ ρ : Type} (l : Nat → σ → Int → Option ρ) (n : Nat) (s : Nat → σ) (r : ρ) (fin : Ev (fun k => l k (s n) (n : Int)) r)
    (step : ∀ i, i < n → Ev (fun k => l k (s (i + 1)) ((i + 1 : Nat) : Int)) r → Ev (fun k => l k (s i) (i : Int)) r) : ∀ d i, i + d = n → Ev (fun k => l k (s i) (i : Int)) r := by
  intro d
  induction d with
  | zero => intro i hi; obtain rfl : i = n := by omega
            exact fin
  | succ d ih => intro i hi; exact step i (by omega) (ih (i + 1) (by omega))
theorem for_ev0 {σ ρ : Type} (l : Nat → σ → Int → Option ρ) (n : Nat) (s : Nat → σ) (r : ρ) (fin : Ev (fun k => l k (s n) (n : Int)) r)
    (step : ∀ i, i < n → Ev (fun k => l k (s (i + 1)) ((i + 1 : Nat) : Int)) r → Ev (fun k => l k (s i) (i : Int)) r) : Ev (fun k => l k (s 0) 0) r := for_ev l n s r fin step n 0 (by omega)
theorem all_ev {ρ : Type} (l : Nat → Int → Option ρ) (p : Nat → Prop) [DecidablePred p] (n : Nat) (A B : ρ) (fin : Ev (fun k => l k (n : Int)) A)
    (yes : ∀ i, i < n → p i → ∀ k, l (k + 1) (i : Int) = l k ((i + 1 : Nat) : Int)) (no : ∀ i, i < n → ¬ p i → Ev (fun k => l k (i : Int)) B) :
    ∀ d i, i + d = n → Ev (fun k => l k (i : Int)) (if ∀ j, j < n → i ≤ j → p j then A else B) := by
  intro d
  induction d with
  | zero => intro i hi; obtain rfl : i = n := by omega
            rw [if_pos (by intro j h1 h2; omega)]; exact fin
  | succ d ih =>
    intro i hi
    by_cases hp : p i
    · have h := Ev.step (g := fun k => l k (i : Int)) (yes i (by omega) hp) (ih (i + 1) (by omega))
      have e : (∀ j, j < n → i ≤ j → p j) ↔ (∀ j, j < n → i + 1 ≤ j → p j) := by
        constructor
        · intro h j h1 h2; exact h j h1 (by omega)
        · intro h j h1 h2
          by_cases e : j = i
          · subst e; exact hp
          · exact h j h1 (by omega)
      by_cases hc : ∀ j, j < n → i ≤ j → p j
      · rw [if_pos hc]; rw [if_pos (e.1 hc)] at h; exact h
      · rw [if_neg hc]; rw [if_neg (fun h' => hc (e.2 h'))] at h; exact h
    · rw [if_neg (fun h => hp (h i (by omega) (Nat.le_refl _)))]
      exact no i (by omega) hp
theorem all_ev0 {ρ : Type} (l : Nat → Int → Option ρ) (p : Nat → Prop) [DecidablePred p] (n : Nat) (A B : ρ) (fin : Ev (fun k => l k (n : Int)) A)
    (yes : ∀ i, i < n → p i → ∀ k, l (k + 1) (i : Int) = l k ((i + 1 : Nat) : Int)) (no : ∀ i, i < n → ¬ p i → Ev (fun k => l k (i : Int)) B) :
    Ev (fun k => l k 0) (if ∀ j, j < n → p j then A else B) := by
  have h := all_ev l p n A B fin yes no n 0 (by omega)
  by_cases hc : ∀ j, j < n → p j
  · rw [if_pos hc]; rw [if_pos (fun j h1 _ => hc j h1)] at h; exact h
  · rw [if_neg hc]; rw [if_neg (fun h' => hc fun j h1 => h' j h1 (Nat.zero_le _))] at h; exact h
theorem Ev.at {α : Type} {g : Nat → Option α} {r : α} (h : Ev g r) : Ev (fun k => g (k + 1)) r := by
  obtain ⟨K, h⟩ := h
  exact ⟨K, fun k hk => h (k + 1) (by omega)⟩
theorem Ev.now1 {α : Type} {g : Nat → Option α} {r : α} (h : ∀ k, g (k + 1) = some r) : Ev g r := Ev.step (f := fun _ => some r) h (Ev.now r)
theorem wr1 (n : Nat) (h : n < 4611686018427387904) : wrap64 ((n : Int) + 1) = ((n + 1 : Nat) : Int) := by unfold wrap64; omega
theorem wrap_id (x : Int) (h1 : -4611686018427387904 ≤ x) (h2 : x < 4611686018427387904) : wrap64 x = x := by unfold wrap64; omega

/-! ### lists by their entries -/
theorem take_snoc {α : Type} (l : List α) (z : α) (i : Nat) (h : i < l.length) : l.take i ++ [l.getD i z] = l.take (i + 1) := by
  rw [List.take_add_one, List.getD_eq_getElem?_getD, List.getElem?_eq_getElem h]; rfl
def tab {α : Type} (n : Nat) (f : Nat → α) : List α := (List.range n).map f
theorem tab_length {α : Type} (n : Nat) (f : Nat → α) : (tab n f).length = n := by simp [tab]
theorem tab_get {α : Type} (n : Nat) (f : Nat → α) (i : Nat) (h : i < n) (z : α) : (tab n f).getD i z = f i := by
  simp [tab, List.getD_eq_getElem?_getD, h]
theorem tab_ext {α : Type} (n : Nat) (f g : Nat → α) (h : ∀ i, i < n → f i = g i) : tab n f = tab n g := by
  unfold tab
  exact List.map_congr_left fun i hi => h i (List.mem_range.1 hi)
theorem tab_set {α : Type} (n : Nat) (f : Nat → α) (i : Nat) (v : α) : (tab n f).set i v = tab n (fun j => if j = i then v else f j) := by
  apply List.ext_getElem
  · simp [tab]
  · intro j h1 h2
    simp only [tab, List.getElem_set, List.getElem_map, List.getElem_range]
    by_cases e : i = j
    · subst e; simp
    · rw [if_neg e, if_neg (Ne.symm e)]
theorem tab_of {α : Type} (l : List α) (z : α) : l = tab l.length (fun i => l.getD i z) := by
  apply List.ext_getElem
  · simp [tab]
  · intro j h1 h2
    simp [tab, List.getD_eq_getElem?_getD, h1]
theorem tab_replicate {α : Type} (n : Nat) (z : α) : List.replicate n z = tab n (fun _ => z) := by
  apply List.ext_getElem
  · simp [tab]
  · intro j h1 h2; simp [tab]
theorem tab_take {α : Type} (n m : Nat) (f : Nat → α) (h : m ≤ n) : (tab n f).take m = tab m f := by
  apply List.ext_getElem
  · simp [tab]; omega
  · intro j h1 h2; simp [tab]
theorem tab_drop {α : Type} (n m : Nat) (f : Nat → α) : (tab n f).drop m = tab (n - m) (fun i => f (m + i)) := by
  apply List.ext_getElem
  · simp [tab]
  · intro j h1 h2; simp [tab]
theorem tab_append {α : Type} (n m : Nat) (f g : Nat → α) : tab n f ++ tab m g = tab (n + m) (fun i => if i < n then f i else g (i - n)) := by
  apply List.ext_getElem
  · simp [tab]
  · intro j h1 h2
    simp only [tab, List.length_append, List.length_map, List.length_range] at h1
    by_cases h : j < n
    · rw [List.getElem_append_left (by simpa [tab] using h)]; simp [tab, h]
    · rw [List.getElem_append_right (by simpa [tab] using h)]; simp [tab, h]
theorem tab_snoc {α : Type} (n : Nat) (f : Nat → α) : tab n f ++ [f n] = tab (n + 1) f := by
  unfold tab; rw [List.range_succ, List.map_append]; rfl
theorem tab_map {α β : Type} (n : Nat) (f : Nat → α) (g : α → β) : (tab n f).map g = tab n (fun i => g (f i)) := by simp [tab]
end Go.Proofs.YtpeikjnkbjabpaaDoor.N
