/-
  The plain statement of FnWalsh.
-/
import Derived.Test.YtpeikjnkbjabpaaMHWalshN
namespace Go.Proofs.Ytpeikjnkbjabpaa.Pure
open Go.RowKit Go.Proofs.YtpeikjnkbjabpaaW.PrintWords Go.Proofs.YtpeikjnkbjabpaaW.PrintLast Go.Proofs.YtpeikjnkbjabpaaW.PrintMore Go.Proofs.Ytpeikjnkbjabpaa.H
set_option linter.unusedVariables false

theorem i64_and_nat (a b : Nat) (ha : a < 256) (hb : b < 256) : Go.bits .and .i64 (a : Int) (b : Int) = ((a &&& b : Nat) : Int) := by
  have hx : a &&& b < 256 := Nat.lt_of_le_of_lt Nat.and_le_left ha
  show IntKind.i64.wrap ((BitVec.ofInt 64 (a : Int) &&& BitVec.ofInt 64 (b : Int)).toNat : Int) = _
  rw [BitVec.toNat_and, ofInt_u64 a (by omega), ofInt_u64 b (by omega), IntKind.wrap_i64]
  omega
theorem wr (x : Int) (h1 : -4611686018427387904 ≤ x) (h2 : x < 4611686018427387904) : wrap64 x = x := by unfold wrap64; omega
theorem mod_f (x : Int) (h1 : -1000000 ≤ x) (h2 : x ≤ 1000000) : laws_mod.f x = some (x % 255) := by
  unfold laws_mod.f
  have e : Int.tmod x 255 = if 0 ≤ x then x % 255 else -((-x) % 255) := by
    split
    · rename_i h
      exact Int.tmod_eq_emod_of_nonneg h
    · have e2 : x = -(-x) := by omega
      rw [e2, Int.neg_tmod, Int.tmod_eq_emod_of_nonneg (by omega)]
      congr 2
      omega
  have hb : -255 < Int.tmod x 255 ∧ Int.tmod x 255 < 255 := by
    rw [e]
    split <;> omega
  rw [wr _ (by omega) (by omega), Int.tmod_eq_emod_of_nonneg (by omega), e]
  congr 1
  split <;> omega
/-- One number of the sum of signs. -/
def term (l : List Int) (k i : Nat) : Int := sg (i &&& k) * rd l (i : Int)
theorem rd_nat (l : List Int) (i : Nat) (hi : i < l.length) : rd l (i : Int) = l[i] := by
  show l.getD ((i : Int)).toNat 0 = _
  rw [Int.toNat_natCast, List.getD_eq_getElem?_getD, List.getElem?_eq_getElem hi]
  rfl
theorem term_bound (l : List Int) (hl : ∀ x ∈ l, 0 ≤ x ∧ x < 256) (k i : Nat) (hi : i < l.length) : -255 ≤ term l k i ∧ term l k i ≤ 255 := by
  have := hl _ (List.getElem_mem hi)
  unfold term sg
  rw [rd_nat l i hi]
  split <;> omega
theorem parity_ev (k : Nat) (hk : k < 256) (x5 x7 : Int) (l : List Int) (x11 x12 r : Int) (h5 : -100000 ≤ x5 ∧ x5 ≤ 100000) (h7 : 0 ≤ x7 ∧ x7 < 256) : ∀ (b : Nat), b < 256 → ∀ odd : Bool,
    Ev (fun n => laws_signs.l0 n (k : Int) (x5 + (if (odd ^^ par b) then -1 else 1) * x7) l x11 (wrap64 (x12 + 1))) r → Ev (fun n => laws_signs.l1 n (k : Int) x5 x7 odd (b : Int) l x11 x12) r := by
  intro b
  induction b using Nat.strongRecOn with
  | _ b ih =>
    intro hb odd h
    by_cases h0 : b = 0
    · subst h0
      refine Ev.step (f := fun n => laws_signs.l0 n (k : Int) (x5 + (if (odd ^^ par 0) then -1 else 1) * x7) l x11 (wrap64 (x12 + 1))) (fun n => ?_) h
      simp only [laws_signs.l1]
      rw [if_neg (by omega), wr x7 (by omega) (by omega), show par 0 = false by decide]
      cases odd
      · rw [if_neg (by decide), wr _ (by omega) (by omega)]
        simp
      · rw [if_pos rfl, wr _ (by omega) (by omega)]
        have e : x5 - x7 = x5 + (if (true ^^ false) = true then -1 else 1) * x7 := by
          rw [if_pos (by decide)]
          omega
        rw [e]
    · obtain ⟨h1, h2⟩ := par_drop ⟨b, hb⟩ (by simp; omega)
      simp only at h1 h2
      refine Ev.step (f := fun n => laws_signs.l1 n (k : Int) x5 x7 (!odd) ((b &&& (b - 1) : Nat) : Int) l x11 x12) (fun n => ?_) (ih _ h2 (by omega) (!odd) ?_)
      · simp only [laws_signs.l1]
        rw [if_pos (by omega), show (b : Int) - 1 = ((b - 1 : Nat) : Int) by omega, wr _ (by omega) (by omega), i64_and_nat b (b - 1) hb (by omega)]
      · rw [h1]
        have e : ((!odd) ^^ (!par b)) = (odd ^^ par b) := by cases odd <;> cases par b <;> rfl
        rw [e]
        exact h
theorem signs_ev (l : List Int) (hn : l.length ≤ 256) (hl : ∀ x ∈ l, 0 ≤ x ∧ x < 256) (k : Nat) (hk : k < 256) : Ev (fun n => laws_signs.f n l (k : Int)) (sm l.length (term l k)) := by
  unfold laws_signs.f
  have hs : ∀ i, i ≤ l.length → -(255 * (i : Int)) ≤ sm i (term l k) ∧ sm i (term l k) ≤ 255 * (i : Int) := fun i hi => sm_bound i fun j hj => term_bound l hl k j (by omega)
  have : ∀ d i, i + d = l.length → Ev (fun n => laws_signs.l0 n (k : Int) (sm i (term l k)) l (l.length : Int) (i : Int)) (sm l.length (term l k)) := by
    intro d
    induction d with
    | zero =>
      intro i hi
      obtain rfl : i = l.length := by omega
      refine Ev.step (f := fun _ => some (sm l.length (term l k))) (fun n => ?_) (Ev.now _)
      simp only [laws_signs.l0]
      rw [if_neg (by omega)]
    | succ d ih =>
      intro i hi
      have hil : i < l.length := by omega
      have hx := hl _ (List.getElem_mem hil)
      have hsi := hs i (by omega)
      refine Ev.step (f := fun n => laws_signs.l1 n (k : Int) (sm i (term l k)) (rd l (i : Int)) false ((i &&& k : Nat) : Int) l (l.length : Int) (i : Int)) (fun n => ?_) (parity_ev k hk _ _ l _ _ _ (by omega) (by rw [rd_nat l i hil]; exact hx) (i &&& k) (Nat.lt_of_le_of_lt Nat.and_le_right hk) false ?_)
      · simp only [laws_signs.l0]
        rw [if_pos (by omega), if_pos (by omega), if_pos (by omega), i64_and_nat i k (by omega) hk]
      · rw [show wrap64 ((i : Int) + 1) = ((i + 1 : Nat) : Int) by unfold wrap64; omega]
        have e : sm i (term l k) + (if (false ^^ par (i &&& k)) then -1 else 1) * rd l (i : Int) = sm (i + 1) (term l k) := by
          show _ = sm i (term l k) + term l k i
          unfold term sg
          rw [Bool.false_xor]
        rw [e]
        exact ih (i + 1) (by omega)
  exact this l.length 0 (by omega)
theorem tr_all (l : List Int) (hn : l.length ≤ 256) (hl : ∀ x ∈ l, 0 ≤ x ∧ x < 256) (k : Nat) : tr (cut (ofL l)) 0 256 k = sm l.length (term l k) := by
  unfold tr
  rw [show 256 = l.length + (256 - l.length) by omega, sm_append]
  have hz : sm (256 - l.length) (fun i => sg ((l.length + i) &&& k) * ((cut (ofL l) (0 + (l.length + i)) : Nat) : Int)) = 0 := sm_zero _ fun i hi => by
    have : cut (ofL l) (0 + (l.length + i)) = 0 := by
      unfold cut ofL
      rw [if_pos (by omega), if_neg (by omega)]
    rw [this]
    show sg _ * 0 = 0
    rw [Int.mul_zero]
  rw [hz, Int.add_zero]
  refine sm_congr _ fun i hi => ?_
  unfold term
  have hx := hl _ (List.getElem_mem hi)
  rw [rd_nat l i hi]
  congr 1
  unfold cut ofL
  rw [if_pos (by omega), if_pos (by omega), Nat.zero_add, List.getD_eq_getElem?_getD, List.getElem?_eq_getElem hi]
  show ((l[i].toNat : Nat) : Int) = l[i]
  omega
theorem wf_u8 (a : Int) (h : (Lit.int .u8 a).wf = true) : 0 ≤ a ∧ a < 256 := by
  simp [Lit.wf, IntKind.min, IntKind.max, IntKind.signed, IntKind.bits] at h
  omega
theorem FnWalsh : laws_FnWalsh.Pure := by
  intro l a1 _ _ hw hw1
  refine Ev.rounds (g := fun k => laws_FnWalsh.f k l a1) ?_
  have hl : ∀ x ∈ l, 0 ≤ x ∧ x < 256 := fun x hx => wf_u8 x (hw x hx)
  have ha := wf_u8 a1 hw1
  obtain ⟨k, rfl⟩ := Int.eq_ofNat_of_zero_le ha.1
  have hk : k < 256 := by omega
  unfold laws_FnWalsh.f
  by_cases h0 : (l.length : Int) > 2147483647
  · simp only [if_pos h0]
    exact Ev.now _
  simp only [if_neg h0]
  by_cases h1 : (l.length : Int) > 256
  · simp only [if_pos h1]
    exact Ev.now _
  simp only [if_neg h1]
  have hn : l.length ≤ 256 := by omega
  have hf : impl_Walsh.f l (l.length : Int) = some (outL (fw l.length (cut (ofL l)) 4)) := by
    unfold impl_Walsh.f
    rw [if_pos ⟨hn, hl, rfl⟩]
  have hD : ∀ x, cut (ofL l) x < 256 := cut_lt (ofL_lt hl)
  obtain ⟨h4, _⟩ := fw_tr l.length (cut (ofL l)) hD (fun x hx => by
    unfold cut ofL
    split
    · rw [if_neg (by omega)]
    · rfl) 4 (Nat.le_refl _)
  have hc := h4 0 k (by simpa using hk)
  rw [Nat.zero_mul, Nat.zero_add, show 4 ^ 4 = 256 by decide, tr_all l hn hl k] at hc
  have hv := fw_lt l.length (cut (ofL l)) hD 4 k
  have hS := sm_bound l.length fun i hi => term_bound l hl k i hi
  have hrd : rd (outL (fw l.length (cut (ofL l)) 4)) (k : Int) = ((fw l.length (cut (ofL l)) 4 k : Nat) : Int) := by
    show (outL _).getD ((k : Int)).toNat 0 = _
    rw [Int.toNat_natCast, List.getD_eq_getElem?_getD]
    simp [outL, hk]
  simp only [hf, Option.bind_some, outL_length, hrd]
  rw [show ((256 : Nat) : Int) = 256 from rfl]
  simp only [if_true, if_pos (show (0 : Int) ≤ (k : Int) by omega), if_pos (show (k : Int) < 256 by omega)]
  generalize fw l.length (cut (ofL l)) 4 k = v at hc hv ⊢
  rw [wr (v : Int) (by omega) (by omega), mod_f (v : Int) (by omega) (by omega), wr (k : Int) (by omega) (by omega)]
  simp only [Option.bind_some]
  refine Ev.bind (signs_ev l hn hl k hk) ?_
  rw [mod_f _ (by omega) (by omega)]
  simp only [Option.bind_some]
  obtain ⟨q, hq⟩ := hc
  have : ((v : Int) % 255 == sm l.length (term l k) % 255) = true := by
    rw [beq_iff_eq, hq]
    omega
  rw [this]
  exact Ev.now _
end Go.Proofs.Ytpeikjnkbjabpaa.Pure
