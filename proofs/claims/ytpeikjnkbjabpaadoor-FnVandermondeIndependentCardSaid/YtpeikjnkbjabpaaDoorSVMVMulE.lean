import Derived.Test.YtpeikjnkbjabpaaDoorSVMVFieldE
import Derived.Test.YtpeikjnkbjabpaaDoorSVMVMatB
import Derived.Test.YtpeikjnkbjabpaaDoorSVV10
import Derived.Laws.BitsAllLaws
namespace Go.Proofs.YtpeikjnkbjabpaaDoor.V
open Go.RowKit Go.Proofs.YtpeikjnkbjabpaaDoorW.PrintWords Go.Proofs.YtpeikjnkbjabpaaDoorW.PrintLast Go.Proofs.YtpeikjnkbjabpaaDoorW.PrintMore
set_option linter.unusedVariables false
theorem shr32_nat (x d : Nat) (hd : d ≤ 32) : shr .u32 (x : Int) (d : Int) = ((x / 2 ^ d : Nat) : Int) := by
  unfold shr
  rw [show min ((d : Int).toNat) IntKind.u32.bits = d by show min d 32 = d; omega, Int.natCast_ediv, Int.natCast_pow]
  rfl
theorem shr64_nat (x d : Nat) (hd : d ≤ 64) : shr .u64 (x : Int) (d : Int) = ((x / 2 ^ d : Nat) : Int) := by
  unfold shr
  rw [show min ((d : Int).toNat) IntKind.u64.bits = d by show min d 64 = d; omega, Int.natCast_ediv, Int.natCast_pow]
  rfl
def xs : Nat → (Nat → Nat) → Nat
  | 0, _ => 0
  | n + 1, f => xs n f ^^^ f n
theorem xs_congr {n : Nat} {f g : Nat → Nat} (h : ∀ i, i < n → f i = g i) : xs n f = xs n g := by
  induction n with
  | zero => rfl
  | succ n ih =>
    show xs n f ^^^ f n = xs n g ^^^ g n
    rw [ih fun i hi => h i (by omega), h n (by omega)]
theorem xs_lt {n m : Nat} {f : Nat → Nat} (h : ∀ i, i < n → f i < 2 ^ m) : xs n f < 2 ^ m := by
  induction n with
  | zero => exact Nat.two_pow_pos m
  | succ n ih => exact Nat.xor_lt_two_pow (ih fun i hi => h i (by omega)) (h n (by omega))
def bt (b i : Nat) : Bool := b / 2 ^ i % 2 == 1
def prd (a b n : Nat) : Nat := xs n (fun i => if bt b i then a * 2 ^ i else 0)
def stp (d x : Nat) : Nat := if bt x (8 + d) then x ^^^ (285 * 2 ^ d) else x
def rmd : Nat → Nat → Nat
  | 0, x => x
  | d + 1, x => rmd d (stp d x)
theorem bt_test (b i : Nat) : bt b i = b.testBit i := by
  unfold bt
  rw [Nat.testBit_eq_decide_div_mod_eq]
  rfl
theorem stp_xor (d x y : Nat) : stp d (x ^^^ y) = stp d x ^^^ stp d y := by
  unfold stp
  rw [bt_test, bt_test, bt_test, Nat.testBit_xor]
  cases x.testBit (8 + d) <;> cases y.testBit (8 + d)
  · rfl
  · exact Nat.xor_assoc _ _ _
  · show x ^^^ y ^^^ _ = x ^^^ _ ^^^ y
    rw [Nat.xor_assoc, Nat.xor_assoc, Nat.xor_comm y]
  · show x ^^^ y = (x ^^^ _) ^^^ (y ^^^ _)
    rw [Nat.xor_assoc, Nat.xor_comm y, ← Nat.xor_assoc (285 * 2 ^ d), Nat.xor_self, Nat.zero_xor]
theorem rmd_xor : ∀ d x y, rmd d (x ^^^ y) = rmd d x ^^^ rmd d y := by
  intro d
  induction d with
  | zero => intro x y; rfl
  | succ d ih =>
    intro x y
    show rmd d (stp d (x ^^^ y)) = rmd d (stp d x) ^^^ rmd d (stp d y)
    rw [stp_xor, ih]
theorem rmd_zero (d : Nat) : rmd d 0 = 0 := by
  have h := rmd_xor d 0 0
  rw [Nat.xor_self, Nat.xor_self] at h
  exact h
theorem rmd_xs (d n : Nat) (f : Nat → Nat) : rmd d (xs n f) = xs n (fun i => rmd d (f i)) := by
  induction n with
  | zero => exact rmd_zero d
  | succ n ih =>
    show rmd d (xs n f ^^^ f n) = xs n (fun i => rmd d (f i)) ^^^ rmd d (f n)
    rw [rmd_xor, ih]
theorem gm_xs (a n : Nat) (f : Nat → Nat) (ha : a < 256) (h : ∀ i, i < n → f i < 256) : gmul a (xs n f) = xs n (fun i => gmul a (f i)) := by
  induction n with
  | zero => exact gm_zero a
  | succ n ih =>
    show gmul a (xs n f ^^^ f n) = xs n (fun i => gmul a (f i)) ^^^ gmul a (f n)
    rw [gm_xor _ _ _ ha (xs_lt (m := 8) fun i hi => h i (by omega)) (h n (by omega)), ih fun i hi => h i (by omega)]
set_option maxRecDepth 100000 in
theorem rmd_basis_fin : ∀ a : Fin 256, ∀ i : Fin 8, rmd 56 (a.val * 2 ^ i.val) = xp i.val a.val := by decide +kernel
set_option maxRecDepth 100000 in
theorem bits_fin : ∀ b : Fin 256, xs 8 (fun i => if bt b.val i then 2 ^ i else 0) = b.val := by decide +kernel
theorem gpow8 : ∀ i : Fin 8, gpow i.val = 2 ^ i.val := by decide +kernel
theorem prd_rmd (a b : Nat) (ha : a < 256) (hb : b < 256) : rmd 56 (prd a b 8) = gmul a b := by
  have e := bits_fin ⟨b, hb⟩
  dsimp only at e
  unfold prd
  rw [rmd_xs]
  conv => rhs; rw [← e]
  rw [gm_xs a 8 _ ha fun i hi => by
    split
    · exact Nat.pow_lt_pow_right (a := 2) (m := i) (n := 8) (by decide) hi
    · decide]
  refine xs_congr fun i hi => ?_
  cases bt b i
  · rw [if_neg (by decide), if_neg (by decide), rmd_zero, gm_zero]
  · rw [if_pos rfl, if_pos rfl, rmd_basis_fin ⟨a, ha⟩ ⟨i, hi⟩, gm_comm, ← gpow8 ⟨i, hi⟩, gm_pow i a (by omega) ha]
theorem bt_high (b i : Nat) (hb : b < 2 ^ i) : bt b i = false := by
  unfold bt
  rw [Nat.div_eq_of_lt hb]
  rfl
theorem prd_more (a b n : Nat) (hb : b < 256) : prd a b (8 + n) = prd a b 8 := by
  induction n with
  | zero => rfl
  | succ n ih =>
    show prd a b (8 + n) ^^^ (if bt b (8 + n) then _ else 0) = _
    rw [ih, bt_high b (8 + n) (Nat.lt_of_lt_of_le hb (Nat.pow_le_pow_right (n := 2) (i := 8) (j := 8 + n) (by decide) (by omega))), if_neg (by decide), Nat.xor_zero]
theorem prd_lt (a b n : Nat) (ha : a < 256) (hb : b < 256) : prd a b n < 2 ^ 16 := by
  refine xs_lt fun i hi => ?_
  by_cases h : bt b i = true
  · have h8 : i < 8 := by
      refine Nat.lt_of_not_le fun h9 => ?_
      rw [bt_high b i (Nat.lt_of_lt_of_le hb (Nat.pow_le_pow_right (n := 2) (i := 8) (j := i) (by decide) h9))] at h
      cases h
    rw [if_pos h]
    have : 2 ^ i ≤ 2 ^ 7 := Nat.pow_le_pow_right (by decide) (by omega)
    calc a * 2 ^ i ≤ 255 * 2 ^ 7 := Nat.mul_le_mul (by omega) this
      _ < 2 ^ 16 := by decide
  · rw [if_neg h]; decide
theorem stp_lt (d x : Nat) (hx : x < 2 ^ 16) : stp d x < 2 ^ 16 := by
  unfold stp
  by_cases h : bt x (8 + d) = true
  · rw [if_pos h]
    have h8 : d < 8 := by
      refine Nat.lt_of_not_le fun h9 => ?_
      rw [bt_high x (8 + d) (Nat.lt_of_lt_of_le hx (Nat.pow_le_pow_right (n := 2) (i := 16) (j := 8 + d) (by decide) (by omega)))] at h
      cases h
    refine Nat.xor_lt_two_pow hx ?_
    have : 2 ^ d ≤ 2 ^ 7 := Nat.pow_le_pow_right (by decide) (by omega)
    calc 285 * 2 ^ d ≤ 285 * 2 ^ 7 := Nat.mul_le_mul (Nat.le_refl _) this
      _ < 2 ^ 16 := by decide
  · rw [if_neg h]; exact hx
theorem bit32 (b i : Nat) (hb : b < 4294967296) (hi : i ≤ 32) : (Go.bits .and .u32 (shr .u32 (b : Int) (i : Int)) 1 = 1) ↔ (bt b i = true) := by
  have h2 : b / 2 ^ i < 4294967296 := Nat.lt_of_le_of_lt (Nat.div_le_self _ _) hb
  rw [shr32_nat b i hi, show (1 : Int) = ((1 : Nat) : Int) from rfl, u32_and_nat _ _ h2 (by decide), Nat.and_one_is_mod]
  unfold bt
  rw [beq_iff_eq]
  exact ⟨fun h => by omega, fun h => by omega⟩
theorem bit64 (b i : Nat) (hb : b < 2 ^ 16) (hi : i ≤ 64) : (Go.bits .and .u64 (shr .u64 (b : Int) (i : Int)) 1 = 1) ↔ (bt b i = true) := by
  have h2 : b / 2 ^ i < 18446744073709551616 := Nat.lt_of_le_of_lt (Nat.div_le_self _ _) (by omega)
  rw [shr64_nat b i hi, show (1 : Int) = ((1 : Nat) : Int) from rfl, u64_and_nat _ _ h2 (by decide), Nat.and_one_is_mod]
  unfold bt
  rw [beq_iff_eq]
  exact ⟨fun h => by omega, fun h => by omega⟩
theorem u64_id' (n : Nat) (h : n < 18446744073709551616) : IntKind.u64.wrap (n : Int) = (n : Int) := by
  simp only [IntKind.wrap, IntKind.signed, IntKind.bits]
  first | omega | (simp; omega)
theorem shl64_nat (x d : Nat) (h : x * 2 ^ d < 18446744073709551616) (hd : d ≤ 64) : shl .u64 (x : Int) (d : Int) = ((x * 2 ^ d : Nat) : Int) := by
  unfold shl
  rw [show min ((d : Int).toNat) IntKind.u64.bits = d by show min d 64 = d; omega]
  have e : (x : Int) * 2 ^ d = ((x * 2 ^ d : Nat) : Int) := by rw [Int.natCast_mul, Int.natCast_pow]; rfl
  rw [e]
  exact u64_id' _ h
theorem product_ev (a b : Nat) (ha : a < 256) (hb : b < 256) : Ev (fun k => spec_product.f k (a : Int) (b : Int)) ((prd a b 32 : Nat) : Int) := by
  unfold spec_product.f
  exact for_ev0 (fun k (s : Int) i => spec_product.l0 k (a : Int) (b : Int) s i) 32 (fun i => ((prd a b i : Nat) : Int)) _
    (Ev.now1 fun k => by simp only [spec_product.l0]; rw [if_neg (by omega)])
    (fun i hi h => by
      refine Ev.step (fun k => ?_) h
      simp only [spec_product.l0]
      rw [if_pos (by omega), if_pos (by omega), wr1 i (by omega)]
      show _ = spec_product.l0 k (a : Int) (b : Int) ((prd a b i ^^^ (if bt b i then a * 2 ^ i else 0) : Nat) : Int) ((i + 1 : Nat) : Int)
      by_cases hbt : bt b i = true
      · have h8 : i < 8 := by
          refine Nat.lt_of_not_le fun h9 => ?_
          rw [bt_high b i (Nat.lt_of_lt_of_le hb (Nat.pow_le_pow_right (n := 2) (i := 8) (j := i) (by decide) h9))] at hbt
          cases hbt
        have h2 : 2 ^ i ≤ 2 ^ 7 := Nat.pow_le_pow_right (by decide) (by omega)
        have h3 : a * 2 ^ i ≤ 255 * 2 ^ 7 := Nat.mul_le_mul (by omega) h2
        have h4 := prd_lt a b i ha hb
        rw [if_pos ((bit32 b i (by omega) (by omega)).2 hbt), if_pos hbt, u64_id' a (by omega), shl64_nat a i (by omega) (by omega), u64_xor_nat _ _ (by omega) (by omega)]
      · rw [if_neg (fun e => hbt ((bit32 b i (by omega) (by omega)).1 e)), if_neg hbt, Nat.xor_zero])
theorem remainder_ev : ∀ (d x : Nat), d ≤ 56 → x < 2 ^ 16 → Ev (fun k => spec_remainder.l0 k (x : Int) 285 8 ((7 : Int) + (d : Int))) ((rmd d x : Nat) : Int) := by
  intro d
  induction d with
  | zero => intro x _ _; exact Ev.now1 fun k => by simp only [spec_remainder.l0]; rw [if_neg (by omega)]; rfl
  | succ d ih =>
    intro x hd hx
    have hs := stp_lt d x hx
    refine Ev.step (fun k => ?_) (ih (stp d x) (by omega) hs)
    simp only [spec_remainder.l0]
    have e1 : (7 : Int) + ((d + 1 : Nat) : Int) = ((8 + d : Nat) : Int) := by omega
    have e2 : wrap64 (((8 + d : Nat) : Int) - 8) = (d : Int) := by rw [wrap_id _ (by omega) (by omega)]; omega
    have e3 : wrap64 (((8 + d : Nat) : Int) - 1) = (7 : Int) + (d : Int) := by rw [wrap_id _ (by omega) (by omega)]; omega
    rw [e1, e2, e3, if_pos (by omega), if_pos (by omega)]
    by_cases hbt : bt x (8 + d) = true
    · have h8 : d < 8 := by
        refine Nat.lt_of_not_le fun h9 => ?_
        rw [bt_high x (8 + d) (Nat.lt_of_lt_of_le hx (Nat.pow_le_pow_right (n := 2) (i := 16) (j := 8 + d) (by decide) (by omega)))] at hbt
        cases hbt
      have h2 : 2 ^ d ≤ 2 ^ 7 := Nat.pow_le_pow_right (by decide) (by omega)
      have h3 : 285 * 2 ^ d ≤ 285 * 2 ^ 7 := Nat.mul_le_mul (Nat.le_refl _) h2
      rw [if_pos ((bit64 x (8 + d) hx (by omega)).2 hbt), if_pos (by omega), show (285 : Int) = ((285 : Nat) : Int) from rfl, shl64_nat 285 d (by omega) (by omega), u64_xor_nat _ _ (by omega) (by omega)]
      show _ = spec_remainder.l0 k ((if bt x (8 + d) then _ else _ : Nat) : Int) _ _ _
      rw [if_pos hbt]
    · rw [if_neg (fun e => hbt ((bit64 x (8 + d) hx (by omega)).1 e))]
      show _ = spec_remainder.l0 k ((if bt x (8 + d) then _ else _ : Nat) : Int) _ _ _
      rw [if_neg hbt]
theorem mul_ev (a b : Nat) (ha : a < 256) (hb : b < 256) : Ev (fun k => spec_Mul.f k (a : Int) (b : Int)) ((gmul a b : Nat) : Int) := by
  unfold spec_Mul.f
  rw [show (a : Int) % 4294967296 = (a : Int) by omega, show (b : Int) % 4294967296 = (b : Int) by omega]
  refine Ev.bind (product_ev a b ha hb) ?_
  rw [show prd a b 32 = prd a b 8 from prd_more a b 24 hb]
  unfold spec_remainder.f
  have h := remainder_ev 56 (prd a b 8) (Nat.le_refl _) (prd_lt a b 8 ha hb)
  refine Ev.bind h ?_
  rw [prd_rmd a b ha hb, show ((gmul a b : Nat) : Int) % 256 = ((gmul a b : Nat) : Int) by have := gm_lt a b; omega]
  exact Ev.now _
end Go.Proofs.YtpeikjnkbjabpaaDoor.V
