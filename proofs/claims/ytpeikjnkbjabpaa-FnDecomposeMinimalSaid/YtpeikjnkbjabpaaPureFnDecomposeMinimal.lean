/-
  The sizes that the two masks of a range tell fill the range, each divides the place where it begins, and no two neighbours are the halves of a greater one: for all bounds of which the first is not after the second. No further condition.
-/
import Derived.Test.YtpeikjnkbjabpaaX3
import Derived.Test.YtpeikjnkbjabpaaDec
namespace Go.Proofs.Ytpeikjnkbjabpaa.Pure
open Go.RowKit Go.Proofs.Ytpeikjnkbjabpaa.X Go.Proofs.YtpeikjnkbjabpaaW.PrintWords Go.Proofs.YtpeikjnkbjabpaaW.PrintLast Go.Proofs.YtpeikjnkbjabpaaW.PrintMore Go.Proofs.YtpeikjnkbjabpaaM

/-- The sizes told by the bits from i on (f of them), rising; and by the bits below i, falling. -/
def ups (l : Nat) : Nat → Nat → List Nat
  | _, 0 => []
  | i, f + 1 => (if l / 2 ^ i % 2 = 1 then [2 ^ i] else []) ++ ups l (i + 1) f
def downs (r : Nat) : Nat → List Nat
  | 0 => []
  | i + 1 => (if r / 2 ^ i % 2 = 1 then [2 ^ i] else []) ++ downs r i
def ints (l : List Nat) : List Int := l.map fun (n : Nat) => (n : Int)
theorem ints_append (a b : List Nat) : ints (a ++ b) = ints a ++ ints b := by simp [ints]
theorem ints_length (a : List Nat) : (ints a).length = a.length := by simp [ints]
theorem ups_length (l f : Nat) : ∀ i, (ups l i f).length ≤ f := by
  induction f with
  | zero => intro i; simp [ups]
  | succ f ih =>
    intro i
    have := ih (i + 1)
    unfold ups
    split <;> simp <;> omega
theorem downs_length (r i : Nat) : (downs r i).length ≤ i := by
  induction i with
  | zero => simp [downs]
  | succ i ih =>
    unfold downs
    split <;> simp <;> omega

theorem bit_test (x i : Nat) (hx : x < 18446744073709551616) (hi : i < 64) : Go.bits .and .u64 (shr .u64 (x : Int) (i : Int)) 1 = ((x / 2 ^ i % 2 : Nat) : Int) := by
  rw [shr_nat x i (by omega)]
  have h := and_nat (x / 2 ^ i) 1 (Nat.lt_of_le_of_lt (Nat.div_le_self _ _) hx) (by decide)
  rw [Nat.and_one_is_mod] at h
  exact h
theorem one_shl (i : Nat) (hi : i < 64) : shl .u64 1 (i : Int) = ((2 ^ i : Nat) : Int) := by
  have h := shl_nat 1 i (by omega)
  have hp := pow_lt hi
  rw [pow64] at hp
  rw [Nat.one_mul, Nat.mod_eq_of_lt hp] at h
  exact h

theorem sizes_down (r : Nat) (hr : r < 18446744073709551616) (i : Nat) : ∀ (k : Nat) (acc : List Int), i ≤ 64 → acc.length + i ≤ 128 → i < k →
    spec_Sizes.l1 k (r : Int) acc ((i : Int) - 1) = some (acc ++ ints (downs r i)) := by
  induction i with
  | zero =>
    intro k acc _ _ hk
    obtain ⟨k, rfl⟩ : ∃ m, k = m + 1 := ⟨k - 1, by omega⟩
    simp only [spec_Sizes.l1]
    rw [if_neg (by omega)]
    simp [downs, ints]
  | succ i ih =>
    intro k acc hi hl hk
    obtain ⟨k, rfl⟩ : ∃ m, k = m + 1 := ⟨k - 1, by omega⟩
    have e : ((i + 1 : Nat) : Int) - 1 = (i : Int) := by omega
    have ew : wrap64 ((i : Int) - 1) = (i : Int) - 1 := by rw [wrap64_id] <;> omega
    rw [e]
    simp only [spec_Sizes.l1]
    rw [if_pos (show (i : Int) ≥ 0 by omega), if_pos (show 0 ≤ (i : Int) by omega), bit_test r i hr (by omega), ew, one_shl i (by omega)]
    by_cases hb : r / 2 ^ i % 2 = 1
    · rw [if_pos (by omega), if_pos (by omega), ih k _ (by omega) (by simp; omega) (by omega)]
      simp [downs, hb, ints]
    · rw [if_neg (by omega), ih k _ (by omega) (by omega) (by omega)]
      simp [downs, hb, ints]
theorem sizes_up (l r : Nat) (hl : l < 18446744073709551616) (hr : r < 18446744073709551616) (f : Nat) : ∀ (i k : Nat) (acc : List Int), i + f = 64 → acc.length ≤ i → f + 66 ≤ k →
    spec_Sizes.l0 k (l : Int) (r : Int) acc (i : Int) = some (acc ++ ints (ups l i f) ++ ints (downs r 64)) := by
  induction f with
  | zero =>
    intro i k acc hi ha hk
    obtain ⟨k, rfl⟩ : ∃ m, k = m + 1 := ⟨k - 1, by omega⟩
    simp only [spec_Sizes.l0]
    rw [if_neg (by omega)]
    have := sizes_down r hr 64 k acc (by omega) (by omega) (by omega)
    rw [show ((64 : Nat) : Int) - 1 = 63 by omega] at this
    rw [this]
    simp [ups, ints]
  | succ f ih =>
    intro i k acc hi ha hk
    obtain ⟨k, rfl⟩ : ∃ m, k = m + 1 := ⟨k - 1, by omega⟩
    have ew : wrap64 ((i : Int) + 1) = ((i + 1 : Nat) : Int) := by rw [wrap64_id] <;> omega
    simp only [spec_Sizes.l0]
    rw [if_pos (by omega), if_pos (by omega), bit_test l i hl (by omega), ew, one_shl i (by omega)]
    by_cases hb : l / 2 ^ i % 2 = 1
    · rw [if_pos (by omega), if_pos (by omega), ih (i + 1) k _ (by omega) (by simp; omega) (by omega)]
      simp [ups, hb, ints]
    · rw [if_neg (by omega), ih (i + 1) k _ (by omega) (by omega) (by omega)]
      simp [ups, hb, ints]

/-- What the law asks of each size, one after the other. -/
def Ok (e : Nat) : Nat → Nat → List Nat → Prop
  | a, _, [] => a = e
  | a, before, n :: xs => 0 < n ∧ a % n = 0 ∧ n ≤ e - a ∧ (before = n → n < 9223372036854775808 ∧ n ≤ a ∧ ¬ (a - n) % (2 * n) = 0) ∧ Ok e (a + n) n xs

theorem loop_ok (e : Nat) (he : e < 18446744073709551616) (suf : List Nat) : ∀ (k a before : Nat) (pre : List Nat), a ≤ e → (pre ++ suf).length ≤ 1000 → suf.length < k → Ok e a before suf →
    laws_FnDecomposeMinimal.l0 k (e : Int) (a : Int) (before : Int) (ints (pre ++ suf)) ((ints (pre ++ suf)).length : Int) (pre.length : Int) = some true := by
  induction suf with
  | nil =>
    intro k a before pre ha hlen hk hok
    obtain ⟨k, rfl⟩ : ∃ m, k = m + 1 := ⟨k - 1, by omega⟩
    simp only [laws_FnDecomposeMinimal.l0]
    rw [if_neg (by simp [ints])]
    simp only [Ok] at hok
    subst hok
    simp
  | cons n xs ih =>
    intro k a before pre ha hlen hk hok
    obtain ⟨k, rfl⟩ : ∃ m, k = m + 1 := ⟨k - 1, by omega⟩
    obtain ⟨hn, hd, hle, hne, hok⟩ := hok
    have hlt : (pre.length : Int) < ((ints (pre ++ n :: xs)).length : Int) := by rw [ints_length]; simp; omega
    have hrd : rd (ints (pre ++ n :: xs)) (pre.length : Int) = (n : Int) := by simp [rd, ints]
    have ew : wrap64 ((pre.length : Int) + 1) = ((pre ++ [n]).length : Int) := by simp at hlen ⊢; rw [wrap64_id] <;> omega
    have es : pre ++ n :: xs = (pre ++ [n]) ++ xs := by simp
    have ih' := ih k (a + n) n (pre ++ [n]) (by omega) (by simp at hlen ⊢; omega) (by simp at hk; omega) hok
    rw [← es] at ih'
    simp only [laws_FnDecomposeMinimal.l0]
    rw [if_pos hlt, if_pos (by omega), if_pos hlt, hrd, if_neg (by omega)]
    rw [if_pos (show Int.tmod (a : Int) (n : Int) = 0 by rw [show Int.tmod (a : Int) (n : Int) = ((a % n : Nat) : Int) from rfl, hd]; rfl)]
    have hsub : IntKind.u64.wrap ((e : Int) - (a : Int)) = ((e - a : Nat) : Int) := by rw [show (e : Int) - (a : Int) = ((e - a : Nat) : Int) by omega, u64_small _ (by omega)]
    have hadd : IntKind.u64.wrap ((a : Int) + (n : Int)) = ((a + n : Nat) : Int) := by rw [show (a : Int) + (n : Int) = ((a + n : Nat) : Int) by omega, u64_small _ (by omega)]
    rw [hsub, if_neg (by omega), hadd, ew]
    by_cases hb : before = n
    · obtain ⟨h1, h2, h3⟩ := hne hb
      have hdbl : IntKind.u64.wrap (2 * (n : Int)) = ((2 * n : Nat) : Int) := by rw [show 2 * (n : Int) = ((2 * n : Nat) : Int) by omega, u64_small _ (by omega)]
      have hm : IntKind.u64.wrap ((a : Int) - (n : Int)) = ((a - n : Nat) : Int) := by rw [show (a : Int) - (n : Int) = ((a - n : Nat) : Int) by omega, u64_small _ (by omega)]
      rw [if_pos (by omega), hdbl, if_neg (by omega), hm]
      rw [if_neg (show ¬ Int.tmod ((a - n : Nat) : Int) ((2 * n : Nat) : Int) = 0 by rw [show Int.tmod ((a - n : Nat) : Int) ((2 * n : Nat) : Int) = (((a - n) % (2 * n) : Nat) : Int) from rfl]; omega)]
      exact ih'
    · rw [if_neg (by omega)]
      exact ih'

/-- The right part: r's bits below i are left, and lie from a on. -/
theorem ok_down (e r d : Nat) (hd : r < 2 ^ d) (i : Nat) : ∀ (a before : Nat), a + r % 2 ^ i = e → a % 2 ^ min i d = 0 → (∀ j, j < i → before = 2 ^ j → j < 63 ∧ 2 ^ j ≤ a ∧ ¬ (a - 2 ^ j) % 2 ^ (j + 1) = 0) → Ok e a before (downs r i) := by
  induction i with
  | zero =>
    intro a before h1 _ _
    simp only [downs, Ok]
    rw [Nat.pow_zero, Nat.mod_one] at h1
    omega
  | succ i ih =>
    intro a before h1 h2 h3
    have hp := two_pow_pos i
    have e1 : 2 ^ (i + 1) = 2 ^ i * 2 := Nat.pow_succ ..
    have hr : r % 2 ^ (i + 1) = 2 ^ i * (r / 2 ^ i % 2) + r % 2 ^ i := by
      rw [e1, Nat.mod_mul, Nat.add_comm]
    have ha : a % 2 ^ min i d = 0 := by
      have : 2 ^ min i d ∣ a := Nat.dvd_trans (Nat.pow_dvd_pow 2 (by omega)) (Nat.dvd_of_mod_eq_zero h2)
      exact Nat.mod_eq_zero_of_dvd this
    unfold downs
    by_cases hb : r / 2 ^ i % 2 = 1
    · rw [if_pos hb]
      rw [hb, Nat.mul_one] at hr
      have hid : i < d := by
        refine pow_lt_iff.1 (Nat.lt_of_le_of_lt ?_ hd)
        have h4 := Nat.div_mul_le_self r (2 ^ i)
        have h6 : 1 ≤ r / 2 ^ i := Nat.pos_of_ne_zero fun h => by rw [h] at hb; exact absurd hb (by decide)
        have h5 : 1 * 2 ^ i ≤ r / 2 ^ i * 2 ^ i := Nat.mul_le_mul_right _ h6
        omega
      rw [Nat.min_eq_left (by omega)] at ha
      refine ⟨hp, ha, by omega, ?_, ih (a + 2 ^ i) (2 ^ i) (by omega) ?_ ?_⟩
      · intro hbe
        obtain ⟨h63, g1, g2⟩ := h3 i (by omega) hbe
        refine ⟨Nat.lt_of_lt_of_eq (pow_lt h63) (by decide), g1, ?_⟩
        rw [show 2 * 2 ^ i = 2 ^ (i + 1) by omega]
        exact g2
      · rw [Nat.min_eq_left (by omega), Nat.add_mod_right]; exact ha
      · intro j hj hjj
        have := pow_lt hj
        omega
    · rw [if_neg hb]
      have h0 : r / 2 ^ i % 2 = 0 := by omega
      rw [h0, Nat.mul_zero, Nat.zero_add] at hr
      exact ih a before (by omega) ha (fun j hj hjj => h3 j (by omega) hjj)
/-- The left part: l's bits from i on are left, and end at mid. -/
theorem ok_up (e l r mid d : Nat) (hd : d < 64) (hl : l < 2 ^ d) (hr : r < 2 ^ d) (hm : mid % 2 ^ d = 0) (hm0 : 0 < mid) (he : mid + r = e) (f : Nat) : ∀ (i a before : Nat), i + f = 64 → a + l / 2 ^ i * 2 ^ i = mid →
    (before = 0 ∨ ∃ j, j < i ∧ j < d ∧ before = 2 ^ j) → Ok e a before (ups l i f ++ downs r 64) := by
  induction f with
  | zero =>
    intro i a before hi h1 h2
    have h64 : l < 2 ^ i := Nat.lt_of_lt_of_le hl (pow_mono (by omega))
    rw [Nat.div_eq_of_lt h64, Nat.zero_mul, Nat.add_zero] at h1
    subst h1
    simp only [ups, List.nil_append]
    refine ok_down e r d hr 64 a before ?_ ?_ ?_
    · rw [Nat.mod_eq_of_lt (Nat.lt_of_lt_of_le hr (pow_mono (by omega)))]
      exact he
    · rw [Nat.min_eq_right (by omega)]
      exact hm
    · intro j _ hj
      rcases h2 with h0 | ⟨j2, _, hj2, h0⟩
      · have := two_pow_pos j
        omega
      · have hjj : j = j2 := by
          rw [hj] at h0
          exact pow_inj h0
        subst hjj
        obtain ⟨c, hc⟩ : 2 ^ (j + 1) ∣ a := Nat.dvd_trans (Nat.pow_dvd_pow 2 hj2) (Nat.dvd_of_mod_eq_zero hm)
        obtain ⟨c, rfl⟩ : ∃ m, c = m + 1 := ⟨c - 1, by cases c <;> simp_all⟩
        have e1 : 2 ^ (j + 1) = 2 ^ j * 2 := Nat.pow_succ ..
        have hp := two_pow_pos j
        rw [Nat.mul_add] at hc
        refine ⟨by omega, by omega, ?_⟩
        rw [show a - 2 ^ j = 2 ^ j + 2 ^ (j + 1) * c by omega, Nat.add_mul_mod_self_left, Nat.mod_eq_of_lt (by omega)]
        omega
  | succ f ih =>
    intro i a before hi h1 h2
    have hp := two_pow_pos i
    have e1 : 2 ^ (i + 1) = 2 ^ i * 2 := Nat.pow_succ ..
    have hq : l / 2 ^ i = 2 * (l / 2 ^ (i + 1)) + l / 2 ^ i % 2 := by
      rw [e1, ← Nat.div_div_eq_div_mul]
      omega
    have hs : l / 2 ^ i * 2 ^ i = l / 2 ^ (i + 1) * 2 ^ (i + 1) + l / 2 ^ i % 2 * 2 ^ i := by
      generalize l / 2 ^ (i + 1) = X at hq
      have h3 : l / 2 ^ i * 2 ^ i = (2 * X + l / 2 ^ i % 2) * 2 ^ i := congrArg (· * 2 ^ i) hq
      rw [h3, Nat.add_mul, e1, Nat.mul_comm 2 X, Nat.mul_assoc, Nat.mul_comm 2 (2 ^ i)]
    unfold ups
    by_cases hb : l / 2 ^ i % 2 = 1
    · rw [if_pos hb]
      rw [hb, Nat.one_mul] at hs
      have hid : i < d := by
        refine pow_lt_iff.1 (Nat.lt_of_le_of_lt ?_ hl)
        have h4 := Nat.div_mul_le_self l (2 ^ i)
        omega
      have ha : a % 2 ^ i = 0 := by
        have h3 : 2 ^ i ∣ mid := Nat.dvd_trans (Nat.pow_dvd_pow 2 (by omega)) (Nat.dvd_of_mod_eq_zero hm)
        have h4 : 2 ^ i ∣ l / 2 ^ i * 2 ^ i := Nat.dvd_mul_left _ _
        have h5 : 2 ^ i ∣ a := by
          rw [← h1] at h3
          exact (Nat.dvd_add_iff_left h4).2 h3
        exact Nat.mod_eq_zero_of_dvd h5
      refine ⟨hp, ha, by omega, ?_, ih (i + 1) (a + 2 ^ i) (2 ^ i) (by omega) (by omega) (.inr ⟨i, by omega, hid, rfl⟩)⟩
      intro hbe
      rcases h2 with h0 | ⟨j, hj, _, h0⟩
      · omega
      · have := pow_lt hj
        omega
    · rw [if_neg hb]
      have h0 : l / 2 ^ i % 2 = 0 := by omega
      rw [h0, Nat.zero_mul, Nat.add_zero] at hs
      exact ih (i + 1) a before (by omega) (by omega) (h2.imp id fun ⟨j, g1, g2, g3⟩ => ⟨j, by omega, g2, g3⟩)
theorem ups_zero (f : Nat) : ∀ i, ups 0 i f = [] := by
  induction f with
  | zero => intro i; rfl
  | succ f ih => intro i; unfold ups; rw [ih, Nat.zero_div]; rfl

theorem ok_dec (b e l r : Nat) (h : Dec b e l r) (h64 : e < 18446744073709551616) : Ok e b 0 (ups l 0 64 ++ downs r 64) := by
  rcases h with ⟨rfl, rfl, rfl⟩ | ⟨_, d, q, x, y, hd, hx, hy, hb, he, rfl, rfl⟩
  · rw [ups_zero, List.nil_append]
    refine ok_down r r 64 (by rw [pow64]; exact h64) 64 0 0 ?_ (by simp) ?_
    · rw [Nat.mod_eq_of_lt (by rw [pow64]; exact h64)]; omega
    · intro j _ hj
      have := two_pow_pos j
      omega
  · have e1 : 2 ^ (d + 1) = 2 ^ d * 2 := Nat.pow_succ ..
    have hp := two_pow_pos d
    refine ok_up e (2 ^ d - 1 - x) _ (2 ^ (d + 1) * q + 2 ^ d) d hd (by omega) hy ?_ (by omega) he.symm 64 0 b 0 (by omega) ?_ (.inl rfl)
    · rw [e1, Nat.mul_assoc, Nat.mul_add_mod, Nat.mod_self]
    · rw [Nat.pow_zero, Nat.div_one, Nat.mul_one]
      omega

theorem FnDecomposeMinimal : laws_FnDecomposeMinimal.Pure := by
  intro a0 a1 w0 w1
  obtain ⟨b, rfl, hb⟩ := wf_u64 a0 w0
  obtain ⟨e, rfl, he⟩ := wf_u64 a1 w1
  refine ⟨1000, ?_⟩
  unfold laws_FnDecomposeMinimal.f
  by_cases hbe : b ≤ e
  · obtain ⟨l, r, hd, D⟩ := decompose b e hbe he
    have hsum := D.sum
    rw [if_neg (by omega)]
    unfold impl_Decompose.f
    rw [hd]
    simp only [Option.bind_some]
    unfold spec_Sizes.f
    have hs := sizes_up l r (by omega) (by omega) 64 0 1000 [] (by omega) (by simp) (by omega)
    rw [List.nil_append, ← ints_append] at hs
    rw [show ((0 : Nat) : Int) = 0 from rfl] at hs
    rw [hs]
    simp only [Option.bind_some]
    have h1 := ups_length l 64 0
    have h2 := downs_length r 64
    have hl := loop_ok e he (ups l 0 64 ++ downs r 64) 1000 b 0 [] hbe (by simp; omega) (by simp; omega) (ok_dec b e l r D he)
    exact hl
  · rw [if_pos (by omega)]

end Go.Proofs.Ytpeikjnkbjabpaa.Pure
