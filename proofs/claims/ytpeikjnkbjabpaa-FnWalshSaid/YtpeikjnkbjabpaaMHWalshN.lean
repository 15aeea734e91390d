/-
  The Walsh-Hadamard transform of 256 numbers modulo 255, four at a time. No Go and no memory in it.
-/
import Derived.Test.YtpeikjnkbjabpaaH1
namespace Go.Proofs.Ytpeikjnkbjabpaa.H
open Go.RowKit Go.Proofs.YtpeikjnkbjabpaaW.PrintWords Go.Proofs.YtpeikjnkbjabpaaW.PrintLast Go.Proofs.YtpeikjnkbjabpaaW.PrintMore
set_option linter.unusedVariables false

/-! ### sums -/
def sm : Nat → (Nat → Int) → Int
  | 0, _ => 0
  | n + 1, f => sm n f + f n
theorem sm_congr {f g : Nat → Int} : ∀ n, (∀ i, i < n → f i = g i) → sm n f = sm n g
  | 0, _ => rfl
  | n + 1, h => by
    show sm n f + f n = sm n g + g n
    rw [sm_congr n (fun i hi => h i (by omega)), h n (by omega)]
theorem sm_append (f : Nat → Int) (a : Nat) : ∀ b, sm (a + b) f = sm a f + sm b (fun i => f (a + i))
  | 0 => by
    show sm a f = sm a f + 0
    omega
  | b + 1 => by
    show sm (a + b) f + f (a + b) = sm a f + (sm b (fun i => f (a + i)) + f (a + b))
    rw [sm_append f a b]
    omega
theorem sm_mul (c : Int) (f : Nat → Int) : ∀ n, sm n (fun i => c * f i) = c * sm n f
  | 0 => by
    show (0 : Int) = c * 0
    omega
  | n + 1 => by
    show sm n (fun i => c * f i) + c * f n = c * (sm n f + f n)
    rw [sm_mul c f n, Int.mul_add]
theorem sm_zero {f : Nat → Int} (n : Nat) (h : ∀ i, i < n → f i = 0) : sm n f = 0 := by
  induction n with
  | zero => rfl
  | succ n ih =>
    show sm n f + f n = 0
    rw [ih (fun i hi => h i (by omega)), h n (by omega)]
    rfl
theorem sm_bound {f : Nat → Int} (n : Nat) (h : ∀ i, i < n → -255 ≤ f i ∧ f i ≤ 255) : -(255 * (n : Int)) ≤ sm n f ∧ sm n f ≤ 255 * (n : Int) := by
  induction n with
  | zero =>
    show -(255 * ((0 : Nat) : Int)) ≤ 0 ∧ (0 : Int) ≤ 255 * ((0 : Nat) : Int)
    omega
  | succ n ih =>
    have h1 := ih (fun i hi => h i (by omega))
    have h2 := h n (by omega)
    show -(255 * ((n + 1 : Nat) : Int)) ≤ sm n f + f n ∧ sm n f + f n ≤ 255 * ((n + 1 : Nat) : Int)
    omega

/-! ### parities of bits -/
def par (n : Nat) : Bool := (List.range 8).foldl (fun b i => b ^^ n.testBit i) false
def sg (n : Nat) : Int := if par n then -1 else 1
theorem par_drop : ∀ b : Fin 256, 0 < b.val → par (b.val &&& (b.val - 1)) = !par b.val ∧ (b.val &&& (b.val - 1)) < b.val := by decide +kernel
theorem par_parts : ∀ t : Fin 4, ∀ a : Fin 4, ∀ b : Fin 64, b.val < 4 ^ t.val → par (4 ^ t.val * a.val + b.val) = (par a.val ^^ par b.val) := by decide +kernel
theorem and_parts (t p q i j : Nat) (hi : i < 4 ^ t) (hj : j < 4 ^ t) : (4 ^ t * p + i) &&& (4 ^ t * q + j) = 4 ^ t * (p &&& q) + (i &&& j) := by
  have e : 4 ^ t = 2 ^ (2 * t) := by rw [Nat.pow_mul]
  rw [e] at hi hj ⊢
  have hij : i &&& j < 2 ^ (2 * t) := Nat.lt_of_le_of_lt Nat.and_le_left hi
  apply Nat.eq_of_testBit_eq
  intro k
  rw [Nat.testBit_and, Nat.testBit_two_pow_mul_add _ hi, Nat.testBit_two_pow_mul_add _ hj, Nat.testBit_two_pow_mul_add _ hij]
  split
  · rw [Nat.testBit_and]
  · rw [Nat.testBit_and]
theorem and_lt4 : ∀ p q : Fin 4, p.val &&& q.val < 4 := by decide +kernel
theorem sg_parts (t p q i j : Nat) (ht : t < 4) (hp : p < 4) (hq : q < 4) (hi : i < 4 ^ t) (hj : j < 4 ^ t) : sg ((4 ^ t * p + i) &&& (4 ^ t * q + j)) = sg (p &&& q) * sg (i &&& j) := by
  have h4 : 4 ^ t ≤ 64 := by
    have := Nat.pow_le_pow_right (n := 4) (by decide) (show t ≤ 3 by omega)
    omega
  have hij : i &&& j < 4 ^ t := Nat.lt_of_le_of_lt Nat.and_le_left hi
  rw [and_parts t p q i j hi hj]
  have h := par_parts ⟨t, ht⟩ ⟨p &&& q, and_lt4 ⟨p, hp⟩ ⟨q, hq⟩⟩ ⟨i &&& j, by omega⟩ hij
  simp only at h
  unfold sg
  rw [h]
  cases par (p &&& q) <;> cases par (i &&& j) <;> decide

/-! ### numbers modulo 255 -/
def Cg (x y : Int) : Prop := ∃ k : Int, x = y + 255 * k
theorem Cg.refl (x : Int) : Cg x x := ⟨0, by omega⟩
theorem Cg.trans {x y z : Int} : Cg x y → Cg y z → Cg x z := by
  rintro ⟨a, h⟩ ⟨b, k⟩
  exact ⟨a + b, by omega⟩
theorem Cg.add {x y x' y' : Int} : Cg x y → Cg x' y' → Cg (x + x') (y + y') := by
  rintro ⟨a, h⟩ ⟨b, k⟩
  exact ⟨a + b, by omega⟩
theorem Cg.sub {x y x' y' : Int} : Cg x y → Cg x' y' → Cg (x - x') (y - y') := by
  rintro ⟨a, h⟩ ⟨b, k⟩
  exact ⟨a - b, by omega⟩
theorem add8_cg (a b : Nat) (ha : a < 256) (hb : b < 256) : Cg ((add8 a b : Nat) : Int) ((a : Int) + (b : Int)) := by
  unfold add8
  by_cases h : a + b < 256
  · exact ⟨0, by omega⟩
  · by_cases h2 : a + b < 511
    · exact ⟨-1, by omega⟩
    · exact ⟨-2, by omega⟩
theorem sub8_cg (a b : Nat) (ha : a < 256) (hb : b < 256) : Cg ((sub8 a b : Nat) : Int) ((a : Int) - (b : Int)) := by
  unfold sub8
  split
  · exact ⟨0, by omega⟩
  · exact ⟨1, by omega⟩

/-! ### what the loops leave -/
def but (D : Nat → Nat) (o d q : Nat) : Nat :=
  if q = 3 then sub8 (sub8 (D o) (D (o + d))) (sub8 (D (o + 2 * d)) (D (o + 3 * d)))
  else if q = 2 then sub8 (add8 (D o) (D (o + d))) (add8 (D (o + 2 * d)) (D (o + 3 * d)))
  else if q = 1 then add8 (sub8 (D o) (D (o + d))) (sub8 (D (o + 2 * d)) (D (o + 3 * d)))
  else add8 (add8 (D o) (D (o + d))) (add8 (D (o + 2 * d)) (D (o + 3 * d)))
theorem bflys_at (D : Nat → Nat) (o d : Nat) (hd : 0 < d) : ∀ n, n ≤ d →
    (∀ i q, i < n → q < 4 → bflys D o d n (o + i + q * d) = but D (o + i) d q) ∧ (∀ i q, n ≤ i → i < d → bflys D o d n (o + i + q * d) = D (o + i + q * d)) ∧ ∀ x, (x < o ∨ o + 4 * d ≤ x) → bflys D o d n x = D x
  | 0, _ => ⟨fun i q h => absurd h (by omega), fun _ _ _ _ => rfl, fun _ _ => rfl⟩
  | n + 1, hn => by
    obtain ⟨h1, h2, h3⟩ := bflys_at D o d hd n (by omega)
    have g0 : bflys D o d n (o + n) = D (o + n) := by have := h2 n 0 (Nat.le_refl _) (by omega); rwa [Nat.zero_mul, Nat.add_zero] at this
    have g1 : bflys D o d n (o + n + d) = D (o + n + d) := by have := h2 n 1 (Nat.le_refl _) (by omega); rwa [Nat.one_mul] at this
    have g2 := h2 n 2 (Nat.le_refl _) (by omega)
    have g3 := h2 n 3 (Nat.le_refl _) (by omega)
    have hne : ∀ i q p, i < d → i ≠ n → o + i + q * d ≠ o + n + p * d := by
      intro i q p hi hin he
      have : (i + q * d) % d = (n + p * d) % d := by rw [show i + q * d = n + p * d by omega]
      rw [Nat.add_mul_mod_self_right, Nat.add_mul_mod_self_right, Nat.mod_eq_of_lt hi, Nat.mod_eq_of_lt (by omega)] at this
      exact hin this
    have hoff : ∀ x, (∀ p, p < 4 → x ≠ o + n + p * d) → bfly (bflys D o d n) (o + n) d x = bflys D o d n x := by
      intro x hx
      have e0 := hx 0 (by omega)
      have e1 := hx 1 (by omega)
      have e2 := hx 2 (by omega)
      have e3 := hx 3 (by omega)
      rw [Nat.zero_mul, Nat.add_zero] at e0
      rw [Nat.one_mul] at e1
      unfold bfly
      rw [if_neg e3, if_neg e2, if_neg e1, if_neg e0]
    refine ⟨fun i q hi hq => ?_, fun i q hi hid => ?_, fun x hx => ?_⟩
    · show bfly (bflys D o d n) (o + n) d (o + i + q * d) = _
      by_cases e : i = n
      · subst e
        unfold bfly but
        rw [g0, g1, g2, g3]
        have k3 : (o + i + q * d = o + i + 3 * d) ↔ q = 3 := by
          constructor
          · intro h
            exact Nat.eq_of_mul_eq_mul_right hd (show q * d = 3 * d by omega)
          · intro h
            rw [h]
        have k2 : (o + i + q * d = o + i + 2 * d) ↔ q = 2 := by
          constructor
          · intro h
            exact Nat.eq_of_mul_eq_mul_right hd (show q * d = 2 * d by omega)
          · intro h
            rw [h]
        have k1 : (o + i + q * d = o + i + d) ↔ q = 1 := by
          constructor
          · intro h
            exact Nat.eq_of_mul_eq_mul_right hd (show q * d = 1 * d by omega)
          · intro h
            rw [h, Nat.one_mul]
        have k0 : (o + i + q * d = o + i) ↔ q = 0 := by
          constructor
          · intro h
            exact Nat.eq_of_mul_eq_mul_right hd (show q * d = 0 * d by omega)
          · intro h
            rw [h, Nat.zero_mul, Nat.add_zero]
        simp only [k3, k2, k1, k0]
        by_cases e3 : q = 3
        · rw [if_pos e3, if_pos e3]
        · rw [if_neg e3, if_neg e3]
          by_cases e2 : q = 2
          · rw [if_pos e2, if_pos e2]
          · rw [if_neg e2, if_neg e2]
            by_cases e1 : q = 1
            · rw [if_pos e1, if_pos e1]
            · rw [if_neg e1, if_neg e1, if_pos (by omega)]
      · rw [hoff _ (fun p _ => hne i q p (by omega) e)]
        exact h1 i q (by omega) hq
    · show bfly (bflys D o d n) (o + n) d (o + i + q * d) = _
      rw [hoff _ (fun p _ => hne i q p hid (by omega))]
      exact h2 i q (by omega) hid
    · show bfly (bflys D o d n) (o + n) d x = _
      rw [hoff _ (fun p hp => ?_)]
      · exact h3 x hx
      · have : p * d ≤ 3 * d := Nat.mul_le_mul_right d (by omega)
        omega
theorem blks_at (D : Nat → Nat) (d : Nat) (hd : 0 < d) : ∀ n,
    (∀ r i q, r < n → i < d → q < 4 → blks D d n (r * (4 * d) + i + q * d) = but D (r * (4 * d) + i) d q) ∧ ∀ x, n * (4 * d) ≤ x → blks D d n x = D x
  | 0 => ⟨fun r i q h => absurd h (by omega), fun _ _ => rfl⟩
  | n + 1 => by
    obtain ⟨h1, h2⟩ := blks_at D d hd n
    obtain ⟨g1, _, g3⟩ := bflys_at (blks D d n) (n * (4 * d)) d hd d (Nat.le_refl _)
    refine ⟨fun r i q hr hi hq => ?_, fun x hx => ?_⟩
    · show bflys (blks D d n) (n * (4 * d)) d d _ = _
      by_cases e : r = n
      · subst e
        rw [g1 i q hi hq]
        unfold but
        rw [h2 _ (by omega), h2 _ (by omega), h2 _ (by omega), h2 _ (by omega)]
      · have hrn : (r + 1) * (4 * d) ≤ n * (4 * d) := Nat.mul_le_mul_right _ (by omega)
        have hqd : q * d ≤ 3 * d := Nat.mul_le_mul_right d (by omega)
        rw [Nat.succ_mul] at hrn
        rw [g3 _ (Or.inl (by omega))]
        exact h1 r i q (by omega) hi hq
    · show bflys (blks D d n) (n * (4 * d)) d d _ = _
      rw [Nat.succ_mul] at hx
      rw [g3 x (Or.inr (by omega))]
      exact h2 x (by omega)

/-! ### the transform -/
theorem sg_mul_cg (n : Nat) {x y : Int} (h : Cg x y) : Cg (sg n * x) (sg n * y) := by
  obtain ⟨k, h⟩ := h
  unfold sg
  split
  · exact ⟨-k, by omega⟩
  · exact ⟨k, by omega⟩
theorem but_cg (D : Nat → Nat) (h : ∀ x, D x < 256) (o d q : Nat) (hq : q < 4) : Cg ((but D o d q : Nat) : Int) (sg (0 &&& q) * (D o : Int) + sg (1 &&& q) * (D (o + d) : Int) + sg (2 &&& q) * (D (o + 2 * d) : Int) + sg (3 &&& q) * (D (o + 3 * d) : Int)) := by
  have s01 := sub8_cg (D o) (D (o + d)) (h _) (h _)
  have s23 := sub8_cg (D (o + 2 * d)) (D (o + 3 * d)) (h _) (h _)
  have a01 := add8_cg (D o) (D (o + d)) (h _) (h _)
  have a23 := add8_cg (D (o + 2 * d)) (D (o + 3 * d)) (h _) (h _)
  have l01 := sub8_lt (D o) (D (o + d)) (h _) (h _)
  have l23 := sub8_lt (D (o + 2 * d)) (D (o + 3 * d)) (h _) (h _)
  have m01 := add8_lt (D o) (D (o + d))
  have m23 := add8_lt (D (o + 2 * d)) (D (o + 3 * d))
  unfold but
  obtain rfl | rfl | rfl | rfl : q = 0 ∨ q = 1 ∨ q = 2 ∨ q = 3 := by omega
  · rw [show sg (0 &&& 0) = 1 by decide, show sg (1 &&& 0) = 1 by decide, show sg (2 &&& 0) = 1 by decide, show sg (3 &&& 0) = 1 by decide, if_neg (by decide), if_neg (by decide), if_neg (by decide)]
    refine (add8_cg _ _ m01 m23).trans ((a01.add a23).trans ⟨0, by omega⟩)
  · rw [show sg (0 &&& 1) = 1 by decide, show sg (1 &&& 1) = -1 by decide, show sg (2 &&& 1) = 1 by decide, show sg (3 &&& 1) = -1 by decide, if_neg (by decide), if_neg (by decide), if_pos rfl]
    refine (add8_cg _ _ l01 l23).trans ((s01.add s23).trans ⟨0, by omega⟩)
  · rw [show sg (0 &&& 2) = 1 by decide, show sg (1 &&& 2) = 1 by decide, show sg (2 &&& 2) = -1 by decide, show sg (3 &&& 2) = -1 by decide, if_neg (by decide), if_pos rfl]
    refine (sub8_cg _ _ m01 m23).trans ((a01.sub a23).trans ⟨0, by omega⟩)
  · rw [show sg (0 &&& 3) = 1 by decide, show sg (1 &&& 3) = -1 by decide, show sg (2 &&& 3) = -1 by decide, show sg (3 &&& 3) = 1 by decide, if_pos rfl]
    refine (sub8_cg _ _ l01 l23).trans ((s01.sub s23).trans ⟨0, by omega⟩)
/-- The part of the transform that d numbers from r on have at j. -/
def tr (D : Nat → Nat) (r d j : Nat) : Int := sm d (fun i => sg (i &&& j) * (D (r + i) : Int))
theorem tr_zero (D : Nat → Nat) (r d j : Nat) (h : ∀ i, i < d → D (r + i) = 0) : tr D r d j = 0 := sm_zero d fun i hi => by
  rw [h i hi]
  show sg _ * 0 = 0
  rw [Int.mul_zero]
theorem tr_four (D : Nat → Nat) (r t j q : Nat) (ht : t < 4) (hj : j < 4 ^ t) (hq : q < 4) :
    tr D r (4 * 4 ^ t) (4 ^ t * q + j) = sg (0 &&& q) * tr D r (4 ^ t) j + sg (1 &&& q) * tr D (r + 4 ^ t) (4 ^ t) j + sg (2 &&& q) * tr D (r + 2 * 4 ^ t) (4 ^ t) j + sg (3 &&& q) * tr D (r + 3 * 4 ^ t) (4 ^ t) j := by
  have part : ∀ p, p < 4 → sm (4 ^ t) (fun i => sg ((4 ^ t * p + i) &&& (4 ^ t * q + j)) * (D (r + (4 ^ t * p + i)) : Int)) = sg (p &&& q) * tr D (r + p * 4 ^ t) (4 ^ t) j := by
    intro p hp
    unfold tr
    rw [← sm_mul]
    refine sm_congr _ fun i hi => ?_
    rw [sg_parts t p q i j ht hp hq hi hj, Int.mul_assoc, show r + (4 ^ t * p + i) = r + p * 4 ^ t + i by rw [Nat.mul_comm p]; omega]
  have h0 := part 0 (by decide)
  have h1 := part 1 (by decide)
  have h2 := part 2 (by decide)
  have h3 := part 3 (by decide)
  rw [Nat.zero_mul, Nat.add_zero] at h0
  rw [Nat.one_mul] at h1
  unfold tr at *
  rw [show 4 * 4 ^ t = 4 ^ t + (4 ^ t + (4 ^ t + 4 ^ t)) by omega, sm_append, sm_append, sm_append, ← h0, ← h1, ← h2, ← h3]
  have e : ∀ a b : Nat → Int, (∀ i, a i = b i) → sm (4 ^ t) a = sm (4 ^ t) b := fun a b h => sm_congr _ fun i _ => h i
  rw [e (fun i => sg (i &&& (4 ^ t * q + j)) * (D (r + i) : Int)) (fun i => sg ((4 ^ t * 0 + i) &&& (4 ^ t * q + j)) * (D (r + (4 ^ t * 0 + i)) : Int)) (fun i => by rw [Nat.mul_zero, Nat.zero_add]),
    e (fun i => sg ((4 ^ t + i) &&& (4 ^ t * q + j)) * (D (r + (4 ^ t + i)) : Int)) (fun i => sg ((4 ^ t * 1 + i) &&& (4 ^ t * q + j)) * (D (r + (4 ^ t * 1 + i)) : Int)) (fun i => by rw [Nat.mul_one]),
    e (fun i => sg ((4 ^ t + (4 ^ t + i)) &&& (4 ^ t * q + j)) * (D (r + (4 ^ t + (4 ^ t + i))) : Int)) (fun i => sg ((4 ^ t * 2 + i) &&& (4 ^ t * q + j)) * (D (r + (4 ^ t * 2 + i)) : Int)) (fun i => by rw [show 4 ^ t + (4 ^ t + i) = 4 ^ t * 2 + i by omega]),
    e (fun i => sg ((4 ^ t + (4 ^ t + (4 ^ t + i))) &&& (4 ^ t * q + j)) * (D (r + (4 ^ t + (4 ^ t + (4 ^ t + i)))) : Int)) (fun i => sg ((4 ^ t * 3 + i) &&& (4 ^ t * q + j)) * (D (r + (4 ^ t * 3 + i)) : Int)) (fun i => by rw [show 4 ^ t + (4 ^ t + (4 ^ t + i)) = 4 ^ t * 3 + i by omega])]
  omega
theorem fw_lt (m : Nat) (D : Nat → Nat) (h : ∀ x, D x < 256) : ∀ s x, fw m D s x < 256 := by
  have hb : ∀ (D : Nat → Nat) (o d n : Nat), (∀ x, D x < 256) → ∀ x, bflys D o d n x < 256 := by
    intro D o d n hD
    induction n with
    | zero => exact hD
    | succ n ih => exact bfly_lt ih _ _
  have hk : ∀ (D : Nat → Nat) (d n : Nat), (∀ x, D x < 256) → ∀ x, blks D d n x < 256 := by
    intro D d n hD
    induction n with
    | zero => exact hD
    | succ n ih => exact hb _ _ _ _ ih
  intro s
  induction s with
  | zero => exact h
  | succ s ih => exact hk _ _ _ ih
theorem fw_tr (m : Nat) (D : Nat → Nat) (h : ∀ x, D x < 256) (hz : ∀ x, m ≤ x → D x = 0) : ∀ t, t ≤ 4 → (∀ r j, j < 4 ^ t → Cg ((fw m D t (r * 4 ^ t + j) : Nat) : Int) (tr D (r * 4 ^ t) (4 ^ t) j)) ∧ ∀ r j, j < 4 ^ t → m ≤ r * 4 ^ t → fw m D t (r * 4 ^ t + j) = 0
  | 0, _ => by
    refine ⟨fun r j hj => ?_, fun r j hj hm => hz _ (by rw [Nat.pow_zero] at *; omega)⟩
    rw [Nat.pow_zero] at hj
    obtain rfl : j = 0 := by omega
    show Cg ((D (r * 4 ^ 0 + 0) : Nat) : Int) ((0 : Int) + sg (0 &&& 0) * ((D (r * 4 ^ 0 + 0) : Nat) : Int))
    rw [show sg (0 &&& 0) = 1 by decide]
    exact ⟨0, by omega⟩
  | t + 1, ht => by
    obtain ⟨h1, h2⟩ := fw_tr m D h hz t (by omega)
    have hd : 0 < 4 ^ t := Nat.pow_pos (by decide)
    have hp : 4 ^ (t + 1) = 4 * 4 ^ t := by rw [Nat.pow_succ, Nat.mul_comm]
    obtain ⟨b1, b2⟩ := blks_at (fw m D t) (4 ^ t) hd ((m + (4 * 4 ^ t - 1)) / (4 * 4 ^ t))
    have key : ∀ (r j : Nat), j < 4 ^ (t + 1) → ∃ q i, q < 4 ∧ i < 4 ^ t ∧ j = 4 ^ t * q + i := by
      intro r j hj
      rw [hp] at hj
      exact ⟨j / 4 ^ t, j % 4 ^ t, by rw [Nat.div_lt_iff_lt_mul hd]; exact hj, Nat.mod_lt _ hd, (Nat.div_add_mod j (4 ^ t)).symm⟩
    have place : ∀ (r p : Nat), r * (4 * 4 ^ t) + p * 4 ^ t = (4 * r + p) * 4 ^ t := by
      intro r p
      rw [Nat.add_mul, Nat.mul_comm 4 r, Nat.mul_assoc]
    refine ⟨fun r j hj => ?_, fun r j hj hm => ?_⟩
    · obtain ⟨q, i, hq, hi, rfl⟩ := key r j hj
      rw [hp, tr_four D _ t i q (by omega) hi hq]
      show Cg ((blks (fw m D t) (4 ^ t) ((m + (4 * 4 ^ t - 1)) / (4 * 4 ^ t)) (r * (4 * 4 ^ t) + (4 ^ t * q + i)) : Nat) : Int) _
      have hp0 := h1 (4 * r + 0) i hi
      have hp1 := h1 (4 * r + 1) i hi
      have hp2 := h1 (4 * r + 2) i hi
      have hp3 := h1 (4 * r + 3) i hi
      rw [← place r 0, Nat.zero_mul, Nat.add_zero] at hp0
      rw [← place r 1, Nat.one_mul] at hp1
      rw [← place r 2] at hp2
      rw [← place r 3] at hp3
      by_cases hr : r < (m + (4 * 4 ^ t - 1)) / (4 * 4 ^ t)
      · rw [show r * (4 * 4 ^ t) + (4 ^ t * q + i) = r * (4 * 4 ^ t) + i + q * 4 ^ t by rw [Nat.mul_comm q]; omega, b1 r i q hr hi hq]
        refine (but_cg (fw m D t) (fw_lt m D h t) _ _ q hq).trans ?_
        rw [show r * (4 * 4 ^ t) + i + 4 ^ t = r * (4 * 4 ^ t) + 4 ^ t + i by omega, show r * (4 * 4 ^ t) + i + 2 * 4 ^ t = r * (4 * 4 ^ t) + 2 * 4 ^ t + i by omega, show r * (4 * 4 ^ t) + i + 3 * 4 ^ t = r * (4 * 4 ^ t) + 3 * 4 ^ t + i by omega]
        exact (((sg_mul_cg _ hp0).add (sg_mul_cg _ hp1)).add (sg_mul_cg _ hp2)).add (sg_mul_cg _ hp3)
      · have hm : m ≤ r * (4 * 4 ^ t) := by
          have := Nat.div_lt_iff_lt_mul (x := m + (4 * 4 ^ t - 1)) (y := r + 1) (k := 4 * 4 ^ t) (by omega)
          have h5 := this.1 (by omega)
          rw [show (r + 1) * (4 * 4 ^ t) = r * (4 * 4 ^ t) + 4 * 4 ^ t from Nat.succ_mul r _] at h5
          omega
        have hge : (m + (4 * 4 ^ t - 1)) / (4 * 4 ^ t) * (4 * 4 ^ t) ≤ r * (4 * 4 ^ t) := Nat.mul_le_mul_right _ (by omega)
        have hpl := place r q
        have hmq : m ≤ (4 * r + q) * 4 ^ t := by rw [← hpl]; omega
        have hv := h2 (4 * r + q) i hi hmq
        rw [b2 _ (by omega), show r * (4 * 4 ^ t) + (4 ^ t * q + i) = (4 * r + q) * 4 ^ t + i by rw [← hpl, Nat.mul_comm q]; omega, hv]
        rw [tr_zero D _ _ _ (fun i hi => hz _ (by omega)), tr_zero D _ _ _ (fun i hi => hz _ (by omega)), tr_zero D _ _ _ (fun i hi => hz _ (by omega)), tr_zero D _ _ _ (fun i hi => hz _ (by omega))]
        exact ⟨0, by omega⟩
    · obtain ⟨q, i, hq, hi, rfl⟩ := key r j hj
      rw [hp] at hm ⊢
      show blks (fw m D t) (4 ^ t) ((m + (4 * 4 ^ t - 1)) / (4 * 4 ^ t)) (r * (4 * 4 ^ t) + (4 ^ t * q + i)) = 0
      have hge : (m + (4 * 4 ^ t - 1)) / (4 * 4 ^ t) ≤ r := by
        have : (m + (4 * 4 ^ t - 1)) / (4 * 4 ^ t) < r + 1 := by
          rw [Nat.div_lt_iff_lt_mul (by omega), show (r + 1) * (4 * 4 ^ t) = r * (4 * 4 ^ t) + 4 * 4 ^ t from Nat.succ_mul r _]
          omega
        omega
      have hge := Nat.mul_le_mul_right (4 * 4 ^ t) hge
      have hpl := place r q
      have hmq : m ≤ (4 * r + q) * 4 ^ t := by rw [← hpl]; omega
      rw [b2 _ (by omega), show r * (4 * 4 ^ t) + (4 ^ t * q + i) = (4 * r + q) * 4 ^ t + i by rw [← hpl, Nat.mul_comm q]; omega]
      exact h2 (4 * r + q) i hi hmq
end Go.Proofs.Ytpeikjnkbjabpaa.H
