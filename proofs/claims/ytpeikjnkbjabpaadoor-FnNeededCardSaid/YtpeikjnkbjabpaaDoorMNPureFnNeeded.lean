/-
  Which parts of a transform in halves are needed: the plain statement of FnNeeded.
-/
import Derived.Test.YtpeikjnkbjabpaaDoorMNLoopsE
import Derived.Test.YtpeikjnkbjabpaaDoorN3
namespace Go.Proofs.YtpeikjnkbjabpaaDoor.Pure
open Go.RowKit Go.Proofs.YtpeikjnkbjabpaaDoorW.PrintWords Go.Proofs.YtpeikjnkbjabpaaDoorW.PrintLast Go.Proofs.YtpeikjnkbjabpaaDoorW.PrintMore Go.Proofs.YtpeikjnkbjabpaaDoor.N
set_option linter.unusedVariables false

/-! ### one level up, bit by bit -/
set_option maxRecDepth 100000 in
theorem mask_fin : ∀ j : Fin 5, ∀ b : Fin 64, if b.val.testBit j.val = true then (hiM j.val).testBit b.val = true ∧ 2 ^ j.val ≤ b.val ∧ b.val ^^^ 2 ^ j.val = b.val - 2 ^ j.val ∧ (b.val + 2 ^ j.val < 64 → (hiM j.val).testBit (b.val + 2 ^ j.val) = false) else (hiM j.val).testBit b.val = false ∧ b.val ^^^ 2 ^ j.val = b.val + 2 ^ j.val ∧ (hiM j.val).testBit (b.val + 2 ^ j.val) = true := by decide +kernel
theorem high_bit {x n : Nat} (h : x < 18446744073709551616) (hn : 64 ≤ n) : x.testBit n = false :=
  Nat.testBit_lt_two_pow (Nat.lt_of_lt_of_le h (by rw [show (18446744073709551616 : Nat) = 2 ^ 64 by decide]; exact Nat.pow_le_pow_right (by decide) hn))
theorem bit_div (x p b : Nat) : (x / 2 ^ p).testBit b = x.testBit (b + p) := by rw [← Nat.shiftRight_eq_div_pow, Nat.testBit_shiftRight, Nat.add_comm]
theorem bit_mul (x p b : Nat) (hb : b < 64) : (x * 2 ^ p % 18446744073709551616).testBit b = (decide (p ≤ b) && x.testBit (b - p)) := by
  rw [show (18446744073709551616 : Nat) = 2 ^ 64 by decide, Nat.testBit_mod_two_pow, ← Nat.shiftLeft_eq, Nat.testBit_shiftLeft]
  simp [hb]
theorem stp_bit (j x b : Nat) (hj : j < 5) (hb : b < 64) (hx : x < 18446744073709551616) : (stp (hiM j) (2 ^ 2 ^ j) x).testBit b = (x.testBit b || x.testBit (b ^^^ 2 ^ j)) := by
  unfold stp
  rw [Nat.testBit_or, Nat.testBit_or, bit_div, Nat.testBit_and, bit_mul _ _ _ hb, Nat.testBit_and, bit_div]
  have h := mask_fin ⟨j, hj⟩ ⟨b, hb⟩
  simp only at h
  by_cases e : b.testBit j = true
  · rw [if_pos e] at h
    obtain ⟨h1, h2, h3, h4⟩ := h
    rw [h3, show b - 2 ^ j + 2 ^ j = b by omega, h1]
    by_cases h5 : b + 2 ^ j < 64
    · rw [h4 h5]
      simp [h2]
    · rw [high_bit (n := b + 2 ^ j) hx (by omega)]
      simp [h2]
  · rw [if_neg e] at h
    obtain ⟨h1, h2, h3⟩ := h
    rw [h2, h3]
    by_cases h5 : 2 ^ j ≤ b
    · rw [show b - 2 ^ j + 2 ^ j = b by omega, h1]
      simp
    · simp [h5]
theorem xor32 : ∀ b : Fin 64, b.val ^^^ 32 = if b.val < 32 then b.val + 32 else b.val - 32 := by decide +kernel
theorem stx_bit (x b : Nat) (hb : b < 64) (hx : x < 18446744073709551616) : (stx x).testBit b = (x.testBit b || x.testBit (b ^^^ 2 ^ 5)) := by
  unfold stx
  have e : (4294967296 : Nat) = 2 ^ 32 := by decide
  rw [e, Nat.testBit_or, Nat.testBit_or, bit_div, bit_mul _ _ _ hb, Nat.testBit_or, bit_div]
  have h := xor32 ⟨b, hb⟩
  simp only at h
  rw [show (2 : Nat) ^ 5 = 32 by decide, h]
  by_cases h1 : b < 32
  · rw [if_pos h1]
    have : decide (32 ≤ b) = false := decide_eq_false (by omega)
    rw [this]
    simp
  · rw [if_neg h1, high_bit (n := b + 32) hx (by omega), show b - 32 + 32 = b by omega]
    have : decide (32 ≤ b) = true := decide_eq_true (by omega)
    rw [this]
    cases x.testBit b <;> cases x.testBit (b - 32) <;> rfl
theorem up_bit (j x b : Nat) (hj : j < 6) (hb : b < 64) (hx : x < 18446744073709551616) : (upW (j + 1) x).testBit b = ((upW j x).testBit b || (upW j x).testBit (b ^^^ 2 ^ j)) := by
  show (if j < 5 then stp (hiM j) (2 ^ 2 ^ j) (upW j x) else stx (upW j x)).testBit b = _
  by_cases h : j < 5
  · rw [if_pos h, stp_bit j _ b h hb (upW_lt x hx j)]
  · obtain rfl : j = 5 := by omega
    rw [if_neg h, stx_bit _ b hb (upW_lt x hx 5)]

/-! ### what the levels mean -/
set_option maxRecDepth 100000 in
theorem half_fin : ∀ L : Fin 6, ∀ b c : Fin 64, (c.val / 2 ^ (L.val + 1) = b.val / 2 ^ (L.val + 1)) ↔ (c.val / 2 ^ L.val = b.val / 2 ^ L.val ∨ c.val / 2 ^ L.val = (b.val ^^^ 2 ^ L.val) / 2 ^ L.val) := by decide +kernel
theorem xor_small : ∀ L : Fin 6, ∀ b : Fin 64, b.val ^^^ 2 ^ L.val < 64 := by decide +kernel
theorem upW_set (x : Nat) (hx : x < 18446744073709551616) : ∀ L, L ≤ 6 → ∀ b, b < 64 → ((upW L x).testBit b = true ↔ ∃ c, c < 64 ∧ x.testBit c = true ∧ c / 2 ^ L = b / 2 ^ L)
  | 0, _, b, hb => by
    show x.testBit b = true ↔ _
    constructor
    · exact fun h => ⟨b, hb, h, rfl⟩
    · rintro ⟨c, _, h, e⟩
      rw [Nat.pow_zero, Nat.div_one, Nat.div_one] at e
      rw [← e]
      exact h
  | L + 1, hL, b, hb => by
    have ih := upW_set x hx L (by omega)
    rw [up_bit L x b (by omega) hb hx, Bool.or_eq_true, ih b hb, ih _ (xor_small ⟨L, by omega⟩ ⟨b, hb⟩)]
    constructor
    · rintro (⟨c, h1, h2, h3⟩ | ⟨c, h1, h2, h3⟩)
      · exact ⟨c, h1, h2, (half_fin ⟨L, by omega⟩ ⟨b, hb⟩ ⟨c, h1⟩).2 (Or.inl h3)⟩
      · exact ⟨c, h1, h2, (half_fin ⟨L, by omega⟩ ⟨b, hb⟩ ⟨c, h1⟩).2 (Or.inr h3)⟩
    · rintro ⟨c, h1, h2, h3⟩
      rcases (half_fin ⟨L, by omega⟩ ⟨b, hb⟩ ⟨c, h1⟩).1 h3 with h | h
      · exact Or.inl ⟨c, h1, h2, h⟩
      · exact Or.inr ⟨c, h1, h2, h⟩
theorem setW_bit (W : Nat → Nat) (n q b : Nat) (hb : b < 64) : (setW W n q).testBit b = true ↔ (W q).testBit b = true ∨ n = 64 * q + b := by
  unfold setW
  by_cases e : q = n / 64
  · rw [if_pos e, ← e, Nat.testBit_or, Nat.testBit_two_pow, Bool.or_eq_true, decide_eq_true_eq]
    constructor
    · rintro (h | h)
      · exact Or.inl h
      · exact Or.inr (by omega)
    · rintro (h | h)
      · exact Or.inl h
      · exact Or.inr (by omega)
  · rw [if_neg e]
    exact ⟨Or.inl, fun h => h.elim id fun h => absurd h (by omega)⟩
theorem words_bit (l : List Int) (q b : Nat) (hb : b < 64) : (wordsOf l q).testBit b = true ↔ ∃ x ∈ l, x.toNat = 64 * q + b := by
  have : ∀ (l : List Int) (W : Nat → Nat), (l.foldl (fun W x => setW W x.toNat) W q).testBit b = true ↔ (W q).testBit b = true ∨ ∃ x ∈ l, x.toNat = 64 * q + b := by
    intro l
    induction l with
    | nil => intro W; simp
    | cons y l ih =>
      intro W
      show (l.foldl _ (setW W y.toNat) q).testBit b = true ↔ _
      rw [ih, setW_bit _ _ _ _ hb]
      constructor
      · rintro ((h | h) | ⟨x, h1, h2⟩)
        · exact Or.inl h
        · exact Or.inr ⟨y, by simp, h⟩
        · exact Or.inr ⟨x, by simp [h1], h2⟩
      · rintro (h | ⟨x, h1, h2⟩)
        · exact Or.inl (Or.inl h)
        · rcases List.mem_cons.1 h1 with rfl | h1
          · exact Or.inl (Or.inr h2)
          · exact Or.inr ⟨x, h1, h2⟩
  unfold wordsOf
  rw [this]
  simp
theorem up_words (l : List Int) (L q b : Nat) (hL : L ≤ 6) (hb : b < 64) : (upW L (wordsOf l q)).testBit b = true ↔ ∃ x ∈ l, ∃ c, c < 64 ∧ x.toNat = 64 * q + c ∧ c / 2 ^ L = b / 2 ^ L := by
  rw [upW_set _ (wordsOf_lt l q) L hL b hb]
  constructor
  · rintro ⟨c, h1, h2, h3⟩
    obtain ⟨x, h4, h5⟩ := (words_bit l q c h1).1 h2
    exact ⟨x, h4, c, h1, h5, h3⟩
  · rintro ⟨x, h4, c, h1, h5, h3⟩
    exact ⟨c, h1, (words_bit l q c h1).2 ⟨x, h4, h5⟩, h3⟩
theorem lev_bit (l : List Int) (lv b : Nat) (h1 : 1 ≤ lv) (h7 : lv ≤ 7) (hb : b < 256) : (levW (wordsOf l) lv b).testBit (b % 64) = true ↔ ∃ x ∈ l, x.toNat / 2 ^ lv = b / 2 ^ lv := by
  unfold levW
  by_cases h6 : lv ≤ 6
  · rw [if_pos h6, up_words l lv (b / 64) (b % 64) h6 (by omega)]
    constructor
    · rintro ⟨x, hx, c, hc, e1, e2⟩
      refine ⟨x, hx, ?_⟩
      obtain rfl | rfl | rfl | rfl | rfl | rfl : lv = 1 ∨ lv = 2 ∨ lv = 3 ∨ lv = 4 ∨ lv = 5 ∨ lv = 6 := by omega
      all_goals
        simp only [Nat.reducePow] at e2 ⊢
        omega
    · rintro ⟨x, hx, e⟩
      refine ⟨x, hx, x.toNat % 64, by omega, ?_, ?_⟩
      all_goals
        obtain rfl | rfl | rfl | rfl | rfl | rfl : lv = 1 ∨ lv = 2 ∨ lv = 3 ∨ lv = 4 ∨ lv = 5 ∨ lv = 6 := by omega
        all_goals
          simp only [Nat.reducePow] at e ⊢
          omega
  · obtain rfl : lv = 7 := by omega
    rw [if_neg h6, Nat.testBit_or, Bool.or_eq_true, up_words l 6 _ (b % 64) (by decide) (by omega), up_words l 6 _ (b % 64) (by decide) (by omega)]
    simp only [Nat.reducePow]
    constructor
    · rintro (⟨x, hx, c, hc, e1, e2⟩ | ⟨x, hx, c, hc, e1, e2⟩)
      · exact ⟨x, hx, by omega⟩
      · exact ⟨x, hx, by omega⟩
    · rintro ⟨x, hx, e⟩
      by_cases h : x.toNat / 64 % 2 = 0
      · exact Or.inl ⟨x, hx, x.toNat % 64, by omega, by omega, by omega⟩
      · exact Or.inr ⟨x, hx, x.toNat % 64, by omega, by omega, by omega⟩

/-! ### the program's functions -/
def Part (l : List Int) (a1 a2 : Int) : Prop := ∃ x ∈ l, x.toNat / 2 ^ a1.toNat = a2.toNat / 2 ^ a1.toNat
instance (l : List Int) (a1 a2 : Int) : Decidable (Part l a1 a2) := inferInstanceAs (Decidable (∃ x ∈ l, _))
def Is (l : List Int) (a1 a2 : Int) : Bool := decide (a1 < 1) || decide (a1 > 7) || decide (Part l a1 a2)
theorem door_needed (l : List Int) (a1 a2 : Int) (hn : l.length ≤ 300) (hl : ∀ x ∈ l, 0 ≤ x ∧ x < 256) (h0 : 0 ≤ a2) (h1 : a2 < 256) : reedsolomon_DoorNeeded.f l a1 a2 = some (Is l a1 a2) := by
  unfold reedsolomon_DoorNeeded.f
  rw [if_pos ⟨by omega, hl, h0, h1⟩]
  congr 1
  unfold Is
  by_cases h8 : 8 ≤ a1
  · rw [if_pos h8, decide_eq_true (show a1 > 7 by omega)]
    simp
  · rw [if_neg h8]
    by_cases h2 : a1 ≤ 0
    · rw [if_pos h2, decide_eq_true (show a1 < 1 by omega)]
      rfl
    · rw [if_neg h2, decide_eq_false (show ¬ a1 < 1 by omega), decide_eq_false (show ¬ a1 > 7 by omega)]
      show _ = decide (Part l a1 a2)
      have h := lev_bit l a1.toNat a2.toNat (by omega) (by omega) (by omega)
      by_cases hp : Part l a1 a2
      · rw [decide_eq_true hp]
        exact h.2 hp
      · rw [decide_eq_false hp]
        exact Bool.eq_false_iff.2 fun e => hp (h.1 e)
theorem rd_mem (l : List Int) (i : Nat) (hi : i < l.length) : rd l (i : Int) = l[i] := by
  show l.getD ((i : Int)).toNat 0 = _
  rw [Int.toNat_natCast, List.getD_eq_getElem?_getD, List.getElem?_eq_getElem hi]
  rfl
theorem needed_ev (l : List Int) (a1 a2 : Int) (hn : l.length ≤ 300) (hl : ∀ x ∈ l, 0 ≤ x ∧ x < 256) (h0 : 0 ≤ a2) (h1 : a2 < 256) : Ev (fun k => impl_Needed.f k l a1 a2) (Is l a1 a2) := by
  unfold impl_Needed.f
  simp only [if_neg (show ¬ a2 < 0 by omega), decide_eq_false (show ¬ a2 > 255 by omega)]
  refine Ev.step (f := fun k => impl_Needed.l0 k l a1 a2 l (l.length : Int) 0) (fun k => by simp only [impl_Needed.j0]; rw [if_neg (by decide)]) ?_
  have h := for_ev0 (fun k (_ : Unit) i => impl_Needed.l0 k l a1 a2 l (l.length : Int) i) l.length (fun _ => ()) (Is l a1 a2)
    (Ev.now1 fun k => by
      simp only [impl_Needed.l0]
      rw [if_neg (by omega), door_needed l a1 a2 hn hl h0 h1]
      rfl)
    (fun i hi h => by
      refine Ev.step (f := fun k => impl_Needed.l0 k l a1 a2 l (l.length : Int) ((i + 1 : Nat) : Int)) (fun k => ?_) h
      have := hl _ (List.getElem_mem hi)
      simp only [impl_Needed.l0]
      rw [if_pos (by omega), if_pos (by omega), if_pos (by omega), rd_mem l i hi, if_neg (by omega), wr1 i (by omega)])
  exact h
theorem shr_same (n lv b : Nat) (hlv : lv ≤ 64) : (shr .i64 (n : Int) (lv : Int) == shr .i64 (b : Int) (lv : Int)) = decide (n / 2 ^ lv = b / 2 ^ lv) := by
  unfold shr
  have e : min ((lv : Int)).toNat IntKind.i64.bits = lv := by
    show min lv 64 = lv
    omega
  rw [e]
  have hp : ∀ n : Nat, (n : Int) / 2 ^ lv = ((n / 2 ^ lv : Nat) : Int) := fun n => by rw [Int.natCast_ediv, Int.natCast_pow]; rfl
  rw [hp, hp]
  by_cases h : n / 2 ^ lv = b / 2 ^ lv
  · rw [h, decide_eq_true rfl]
    exact beq_self_eq_true _
  · rw [decide_eq_false h]
    exact beq_eq_false_iff_ne.2 (by omega)
/-- What is known behind the first i elements. -/
def seen (l : List Int) (a1 a2 : Int) (i : Nat) : Bool := Is (l.take i) a1 a2
theorem seen_step (l : List Int) (a1 a2 : Int) (i : Nat) (hi : i < l.length) (h : seen l a1 a2 i = false) (hx : 0 ≤ l[i]) (h0 : 0 ≤ a2) : (shr .i64 (l[i]) (mx a1 0) == shr .i64 a2 (mx a1 0)) = seen l a1 a2 (i + 1) := by
  unfold seen Is at h ⊢
  simp only [Bool.or_eq_false_iff, decide_eq_false_iff_not] at h
  obtain ⟨⟨h1, h2⟩, h3⟩ := h
  rw [decide_eq_false h1, decide_eq_false h2]
  obtain ⟨lv, rfl⟩ := Int.eq_ofNat_of_zero_le (show 0 ≤ a1 by omega)
  obtain ⟨b, rfl⟩ := Int.eq_ofNat_of_zero_le h0
  have hm : mx (lv : Int) 0 = (lv : Int) := by
    unfold mx
    rw [if_neg (by omega)]
  rw [hm]
  obtain ⟨n, hn⟩ := Int.eq_ofNat_of_zero_le hx
  rw [hn, shr_same n lv b (by omega)]
  show _ = decide (Part _ _ _)
  apply decide_eq_decide.2
  unfold Part at h3 ⊢
  rw [List.take_add_one, List.getElem?_eq_getElem hi]
  simp only [Int.toNat_natCast] at h3 ⊢
  constructor
  · intro e
    exact ⟨l[i], List.mem_append_right _ (by simp), by rw [hn, Int.toNat_natCast]; exact e⟩
  · rintro ⟨x, hx, e⟩
    rcases List.mem_append.1 hx with hx | hx
    · exact absurd ⟨x, hx, e⟩ h3
    · simp only [Option.toList_some, List.mem_singleton] at hx
      rw [hx, hn, Int.toNat_natCast] at e
      exact e
theorem seen_on (l : List Int) (a1 a2 : Int) (i : Nat) (h : seen l a1 a2 i = true) : seen l a1 a2 (i + 1) = true := by
  unfold seen Is at h ⊢
  simp only [Bool.or_eq_true, decide_eq_true_eq] at h ⊢
  rcases h with h | ⟨x, hx, e⟩
  · exact Or.inl h
  · refine Or.inr ⟨x, ?_, e⟩
    rw [List.take_add_one]
    exact List.mem_append_left _ hx
theorem law_loop (l : List Int) (a1 a2 : Int) (hn : l.length ≤ 300) (h0 : 0 ≤ a2) (h1 : a2 < 256) : Ev (fun k => laws_FnNeeded.l0 k l a1 a2 (seen l a1 a2 0) l (l.length : Int) 0) true := by
  by_cases hl : ∀ x ∈ l, 0 ≤ x ∧ x < 256
  · exact for_ev0 (fun k (x7 : Bool) i => laws_FnNeeded.l0 k l a1 a2 x7 l (l.length : Int) i) l.length (fun i => seen l a1 a2 i) true
      (by
        refine Ev.step (f := fun k => (impl_Needed.f k l a1 a2).bind fun t => some (t == seen l a1 a2 l.length)) (fun k => by simp only [laws_FnNeeded.l0]; rw [if_neg (by omega)]) ?_
        refine Ev.bind (needed_ev l a1 a2 hn hl h0 h1) ?_
        have : (Is l a1 a2 == seen l a1 a2 l.length) = true := by
          unfold seen
          rw [List.take_length]
          exact beq_self_eq_true _
        rw [this]
        exact Ev.now _)
      (fun i hi h => by
        refine Ev.step (f := fun k => laws_FnNeeded.l0 k l a1 a2 (seen l a1 a2 (i + 1)) l (l.length : Int) ((i + 1 : Nat) : Int)) (fun k => ?_) h
        have hx := hl _ (List.getElem_mem hi)
        simp only [laws_FnNeeded.l0]
        rw [if_pos (by omega), if_pos (by omega), if_pos (by omega), rd_mem l i hi, if_neg (by omega), if_neg (by omega), wr1 i (by omega)]
        by_cases hs : seen l a1 a2 i = true
        · rw [if_pos hs, seen_on l a1 a2 i hs]
        · rw [if_neg hs, seen_step l a1 a2 i hi (by simpa using hs) hx.1 h0])
  · have hex : ∃ i, ∃ hi : i < l.length, ¬ (0 ≤ l[i] ∧ l[i] < 256) := by
      apply Classical.byContradiction
      intro hc
      apply hl
      intro x hx
      obtain ⟨i, hi, rfl⟩ := List.getElem_of_mem hx
      apply Classical.byContradiction
      exact fun h => hc ⟨i, hi, h⟩
    obtain ⟨i, hi, hbad⟩ := hex
    have : ∀ d j, j + d = i → ∀ s, Ev (fun k => laws_FnNeeded.l0 k l a1 a2 s l (l.length : Int) (j : Int)) true := by
      intro d
      induction d with
      | zero =>
        intro j hj s
        obtain rfl : j = i := by omega
        refine Ev.now1 fun k => ?_
        simp only [laws_FnNeeded.l0]
        rw [if_pos (by omega), if_pos (by omega), if_pos (by omega), rd_mem l j hi]
        by_cases h2 : l[j] < 0
        · rw [if_pos h2]
        · rw [if_neg h2, if_pos (by omega)]
      | succ d ih =>
        intro j hj s
        have hj' : j < l.length := by omega
        by_cases h2 : l[j] < 0
        · refine Ev.now1 fun k => ?_
          simp only [laws_FnNeeded.l0]
          rw [if_pos (by omega), if_pos (by omega), if_pos (by omega), rd_mem l j hj', if_pos h2]
        · by_cases h3 : l[j] > 255
          · refine Ev.now1 fun k => ?_
            simp only [laws_FnNeeded.l0]
            rw [if_pos (by omega), if_pos (by omega), if_pos (by omega), rd_mem l j hj', if_neg h2, if_pos h3]
          · refine Ev.step (f := fun k => laws_FnNeeded.l0 k l a1 a2 (if s = true then true else (shr .i64 (l[j]) (mx a1 0) == shr .i64 a2 (mx a1 0))) l (l.length : Int) ((j + 1 : Nat) : Int)) (fun k => ?_) (ih (j + 1) (by omega) _)
            simp only [laws_FnNeeded.l0]
            rw [if_pos (by omega), if_pos (by omega), if_pos (by omega), rd_mem l j hj', if_neg h2, if_neg h3, wr1 j (by omega)]
            cases s
            · rw [if_neg (by decide), if_neg (by decide)]
            · rw [if_pos rfl, if_pos rfl]
    exact this i 0 (by omega) _
theorem FnNeeded_ev (l : List Int) (a1 a2 : Int) : Ev (fun k => laws_FnNeeded.f k l a1 a2) true := by
  unfold laws_FnNeeded.f
  by_cases h : (l.length : Int) > 2147483647
  · simp only [if_pos h]
    exact Ev.now _
  simp only [if_neg h]
  have hj : Ev (fun k => laws_FnNeeded.j0 k l a1 a2 true) true := Ev.now1 fun k => by
    simp only [laws_FnNeeded.j0, if_true]
  by_cases h3 : (l.length : Int) > 300
  · simp only [if_pos h3]
    exact hj
  simp only [if_neg h3]
  by_cases h0 : a2 < 0
  · simp only [if_pos h0]
    exact hj
  simp only [if_neg h0]
  by_cases h1 : a2 > 255
  · rw [decide_eq_true h1]
    exact hj
  rw [decide_eq_false h1]
  have hfin := law_loop l a1 a2 (by omega) (by omega) (by omega)
  have hs : seen l a1 a2 0 = (decide (a1 < 1) || decide (a1 > 7)) := by
    unfold seen Is
    rw [List.take_zero, decide_eq_false (show ¬ Part [] a1 a2 by rintro ⟨x, hx, _⟩; simp at hx), Bool.or_false]
  rw [hs] at hfin
  refine Ev.step (f := fun k => laws_FnNeeded.j1 k l a1 a2 (decide (a1 < 1) || decide (a1 > 7))) (fun k => ?_) (Ev.step (f := fun k => laws_FnNeeded.l0 k l a1 a2 (decide (a1 < 1) || decide (a1 > 7)) l (l.length : Int) 0) (fun k => rfl) hfin)
  simp only [laws_FnNeeded.j0]
  rw [if_neg (by decide)]
  by_cases h2 : a1 < 1
  · rw [if_pos h2, decide_eq_true h2]
    rfl
  · rw [if_neg h2, decide_eq_false h2]
    rfl
theorem FnNeeded (l0 : List Int) (w0 : l0.length ≤ maxLen ∧ ∀ y ∈ l0, (Lit.int .i64 y).wf = true) (a1 : Int) (w1 : (Lit.int .i64 a1).wf = true) (a2 : Int) (w2 : (Lit.int .i64 a2).wf = true) : ∃ k, N.laws_FnNeeded.f k l0 a1 a2 = some true := (FnNeeded_ev l0 a1 a2).rounds
end Go.Proofs.YtpeikjnkbjabpaaDoor.Pure
