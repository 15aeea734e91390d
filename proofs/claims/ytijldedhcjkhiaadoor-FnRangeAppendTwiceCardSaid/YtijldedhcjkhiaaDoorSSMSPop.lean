import Derived.Test.YtijldedhcjkhiaaDoorSSMSM0
namespace Go.Proofs.YtijldedhcjkhiaaDoorM
def pop : Nat → Nat → Nat
  | 0, _ => 0
  | f + 1, x => x % 2 + pop f (x / 2)
theorem pop_zero (f : Nat) : pop f 0 = 0 := by
  induction f with
  | zero => rfl
  | succ f ih => simp [pop, ih]
theorem pop_le (f : Nat) : ∀ x, pop f x ≤ f := by
  induction f with
  | zero => intro x; simp [pop]
  | succ f ih => intro x; have := ih (x / 2); simp only [pop]; omega
theorem pop_join (f : Nat) (v : Nat) (n : Nat) : ∀ b, b < 2 ^ n → pop (n + f) (b + 2 ^ n * v) = pop n b + pop f v := by
  induction n with
  | zero => intro b hb; simp at hb; subst hb; simp [pop]
  | succ n ih =>
    intro b hb
    rw [Nat.pow_succ] at hb ⊢
    rw [show n + 1 + f = (n + f) + 1 by omega]
    simp only [pop]
    rw [Nat.mul_comm (2 ^ n) 2, Nat.mul_assoc, show (b + 2 * (2 ^ n * v)) % 2 = b % 2 by omega, show (b + 2 * (2 ^ n * v)) / 2 = b / 2 + 2 ^ n * v by omega, ih (b / 2) (by omega)]
    omega
theorem pop_more (n f x : Nat) (h : x < 2 ^ n) : pop (n + f) x = pop n x := by
  have := pop_join f 0 n x h
  rw [Nat.mul_zero, Nat.add_zero, pop_zero] at this
  omega
theorem pop_top (d x n : Nat) (hx : x < 2 ^ d) (hd : d < n) : pop n (2 ^ d + x) = 1 + pop n x := by
  obtain ⟨m, rfl⟩ : ∃ m, n = d + (m + 1) := ⟨n - d - 1, by omega⟩
  have h1 := pop_join (m + 1) 1 d x hx
  rw [Nat.mul_one] at h1
  have h2 := pop_more d (m + 1) x hx
  have h3 : pop (m + 1) 1 = 1 := by simp [pop, pop_zero]
  rw [Nat.add_comm (2 ^ d), h1, h2, h3]
  omega
def val : List Nat → Nat
  | [] => 0
  | b :: l => b + 256 * val l
theorem val_lt (l : List Nat) (h : ∀ b ∈ l, b < 256) : val l < 256 ^ l.length := by
  induction l with
  | nil => simp [val]
  | cons b l ih =>
    have h1 := ih (fun x hx => h x (List.mem_cons_of_mem _ hx))
    have h2 := h b (List.mem_cons_self ..)
    simp only [val, List.length_cons, Nat.pow_succ]
    omega
theorem exists_bytes (n : Nat) : ∀ x, x < 256 ^ n → ∃ l, l.length = n ∧ (∀ b ∈ l, b < 256) ∧ val l = x := by
  induction n with
  | zero => intro x hx; simp at hx; exact ⟨[], rfl, by simp, by simp [val, hx]⟩
  | succ n ih =>
    intro x hx
    rw [Nat.pow_succ] at hx
    obtain ⟨l, h1, h2, h3⟩ := ih (x / 256) (by omega)
    refine ⟨x % 256 :: l, by simp [h1], ?_, by simp only [val, h3]; omega⟩
    intro b hb
    rcases List.mem_cons.1 hb with rfl | hb
    · omega
    · exact h2 b hb
theorem and_byte (c u m k : Nat) (hc : c < 256) (hm : m < 256) : (c + 256 * u) &&& (m + 256 * k) = (c &&& m) + 256 * (u &&& k) := by
  have h1 : ((c + 256 * u) &&& (m + 256 * k)) % 256 = c &&& m := by
    have := Nat.and_mod_two_pow (a := c + 256 * u) (b := m + 256 * k) (n := 8)
    rw [show 2 ^ 8 = 256 from rfl] at this
    rw [this, show (c + 256 * u) % 256 = c by omega, show (m + 256 * k) % 256 = m by omega]
  have h2 : ((c + 256 * u) &&& (m + 256 * k)) / 256 = u &&& k := by
    have := Nat.and_div_two_pow (a := c + 256 * u) (b := m + 256 * k) (n := 8)
    rw [show 2 ^ 8 = 256 from rfl] at this
    rw [this, show (c + 256 * u) / 256 = u by omega, show (m + 256 * k) / 256 = k by omega]
  omega
def reps (n m : Nat) : Nat := val (List.replicate n m)
theorem reps_succ (n m : Nat) : reps (n + 1) m = m + 256 * reps n m := rfl
def st1 (b : Nat) : Nat := (b / 2 &&& 85) + (b &&& 85)
def st2 (b : Nat) : Nat := (b / 4 &&& 51) + (b &&& 51)
def st3 (b : Nat) : Nat := (b / 16 + b) &&& 15
theorem st_all : ∀ b : Fin 256, st1 b.val < 256 ∧ st2 (st1 b.val) ≤ 68 ∧ st2 (st1 b.val) % 16 ≤ 4 ∧ st3 (st2 (st1 b.val)) = pop 8 b.val := by decide +kernel
theorem low1 : ∀ b : Fin 256, ∀ v : Fin 2, (b.val / 2 + 128 * v.val) &&& 85 = b.val / 2 &&& 85 := by decide +kernel
theorem low2 : ∀ b : Fin 256, ∀ v : Fin 4, (b.val / 4 + 64 * v.val) &&& 51 = b.val / 4 &&& 51 := by decide +kernel
theorem low3 : ∀ c : Fin 69, ∀ v : Fin 5, (c.val / 16 + c.val + 16 * v.val) &&& 15 = (c.val / 16 + c.val) &&& 15 := by decide +kernel
theorem step1 (l : List Nat) (h : ∀ b ∈ l, b < 256) : (val l / 2 &&& reps l.length 85) + (val l &&& reps l.length 85) = val (l.map st1) := by
  induction l with
  | nil => rfl
  | cons b l ih =>
    have h1 := ih (fun x hx => h x (List.mem_cons_of_mem _ hx))
    have h2 := h b (List.mem_cons_self ..)
    have h3 := low1 ⟨b, h2⟩ ⟨val l % 2, by omega⟩
    simp only [List.map_cons, List.length_cons, val, reps_succ] at h3 ⊢
    rw [show (b + 256 * val l) / 2 = (b / 2 + 128 * (val l % 2)) + 256 * (val l / 2) by omega, and_byte _ _ _ _ (by omega) (by omega), and_byte _ _ _ _ h2 (by omega), h3]
    have h4 : st1 b = (b / 2 &&& 85) + (b &&& 85) := rfl
    omega
theorem step2 (l : List Nat) (h : ∀ b ∈ l, b < 256) : (val l / 4 &&& reps l.length 51) + (val l &&& reps l.length 51) = val (l.map st2) := by
  induction l with
  | nil => rfl
  | cons b l ih =>
    have h1 := ih (fun x hx => h x (List.mem_cons_of_mem _ hx))
    have h2 := h b (List.mem_cons_self ..)
    have h3 := low2 ⟨b, h2⟩ ⟨val l % 4, by omega⟩
    simp only [List.map_cons, List.length_cons, val, reps_succ] at h3 ⊢
    rw [show (b + 256 * val l) / 4 = (b / 4 + 64 * (val l % 4)) + 256 * (val l / 4) by omega, and_byte _ _ _ _ (by omega) (by omega), and_byte _ _ _ _ h2 (by omega), h3]
    have h4 : st2 b = (b / 4 &&& 51) + (b &&& 51) := rfl
    omega
theorem step3 (l : List Nat) (h : ∀ b ∈ l, b ≤ 68 ∧ b % 16 ≤ 4) : (val l / 16 + val l) &&& reps l.length 15 = val (l.map st3) := by
  induction l with
  | nil => rfl
  | cons b l ih =>
    have h1 := ih (fun x hx => h x (List.mem_cons_of_mem _ hx))
    obtain ⟨h2, _⟩ := h b (List.mem_cons_self ..)
    have hv : val l % 16 ≤ 4 := by
      cases l with
      | nil => simp [val]
      | cons c l => have := (h c (by simp)).2; simp only [val]; omega
    have h3 := low3 ⟨b, by omega⟩ ⟨val l % 16, by omega⟩
    simp only [List.map_cons, List.length_cons, val, reps_succ] at h3 ⊢
    rw [show (b + 256 * val l) / 16 + (b + 256 * val l) = (b / 16 + b + 16 * (val l % 16)) + 256 * (val l / 16 + val l) by omega, and_byte _ _ _ _ (by omega) (by omega), h3, h1]
    rfl
theorem pop_val (l : List Nat) (h : ∀ b ∈ l, b < 256) : pop (8 * l.length) (val l) = (l.map (pop 8)).sum := by
  induction l with
  | nil => rfl
  | cons b l ih =>
    have h1 := ih (fun x hx => h x (List.mem_cons_of_mem _ hx))
    have h2 := h b (List.mem_cons_self ..)
    simp only [List.map_cons, List.length_cons, val, List.sum_cons]
    rw [show 8 * (l.length + 1) = 8 + 8 * l.length by omega, show (256 : Nat) = 2 ^ 8 from rfl, pop_join _ _ 8 b h2, h1]
theorem val8 (a0 a1 a2 a3 a4 a5 a6 a7 : Nat) : val [a0, a1, a2, a3, a4, a5, a6, a7] = a0 + 256 * (a1 + 256 * (a2 + 256 * (a3 + 256 * (a4 + 256 * (a5 + 256 * (a6 + 256 * a7)))))) := by
  simp only [val, Nat.mul_zero, Nat.add_zero]
theorem eight {α : Type} (l : List α) (h : l.length = 8) : ∃ a0 a1 a2 a3 a4 a5 a6 a7, l = [a0, a1, a2, a3, a4, a5, a6, a7] := by
  match l, h with
  | [a0, a1, a2, a3, a4, a5, a6, a7], _ => exact ⟨a0, a1, a2, a3, a4, a5, a6, a7, rfl⟩
theorem val8_lt (l : List Nat) (h : l.length = 8) (hb : ∀ b ∈ l, b ≤ 68) : val l ≤ 68 * 72340172838076673 := by
  obtain ⟨a0, a1, a2, a3, a4, a5, a6, a7, rfl⟩ := eight l h
  have h0 := hb a0 (by simp)
  have h1 := hb a1 (by simp)
  have h2 := hb a2 (by simp)
  have h3 := hb a3 (by simp)
  have h4 := hb a4 (by simp)
  have h5 := hb a5 (by simp)
  have h6 := hb a6 (by simp)
  have h7 := hb a7 (by simp)
  rw [val8]
  omega
theorem swar (x : Nat) (hx : x < 18446744073709551616) : ∃ (s1 s2 : Nat) (l : List Nat),
    (x / 2 &&& 6148914691236517205) + (x &&& 6148914691236517205) = s1 ∧ s1 < 18446744073709551616 ∧
    (s1 / 4 &&& 3689348814741910323) + (s1 &&& 3689348814741910323) = s2 ∧ s2 / 16 + s2 < 18446744073709551616 ∧
    (s2 / 16 + s2) &&& 1085102592571150095 = val l ∧ l.length = 8 ∧ (∀ b ∈ l, b ≤ 8) ∧ l.sum = pop 64 x := by
  obtain ⟨l, hl, hb, rfl⟩ := exists_bytes 8 x (by rw [show 256 ^ 8 = 18446744073709551616 from by decide]; exact hx)
  have e1 : (6148914691236517205 : Nat) = reps l.length 85 := by rw [hl]; decide
  have e2 : (3689348814741910323 : Nat) = reps (l.map st1).length 51 := by rw [List.length_map, hl]; decide
  have e3 : (1085102592571150095 : Nat) = reps ((l.map st1).map st2).length 15 := by rw [List.length_map, List.length_map, hl]; decide
  have h1 := step1 l hb
  have hb1 : ∀ b ∈ l.map st1, b < 256 := by
    intro b hm
    obtain ⟨c, hc, rfl⟩ := List.mem_map.1 hm
    exact (st_all ⟨c, hb c hc⟩).1
  have h2 := step2 _ hb1
  have hb2 : ∀ b ∈ (l.map st1).map st2, b ≤ 68 ∧ b % 16 ≤ 4 := by
    intro b hm
    obtain ⟨c, hc, rfl⟩ := List.mem_map.1 hm
    obtain ⟨d, hd, rfl⟩ := List.mem_map.1 hc
    exact ⟨(st_all ⟨d, hb d hd⟩).2.1, (st_all ⟨d, hb d hd⟩).2.2.1⟩
  have h3 := step3 _ hb2
  have hlt1 := val_lt _ hb1
  rw [List.length_map, hl, show 256 ^ 8 = 18446744073709551616 from by decide] at hlt1
  have hlt2 := val8_lt ((l.map st1).map st2) (by rw [List.length_map, List.length_map, hl]) (fun b hm => (hb2 b hm).1)
  have hp := pop_val l hb
  rw [hl] at hp
  have h4 : ((l.map st1).map st2).map st3 = l.map (pop 8) := by
    rw [List.map_map, List.map_map]
    refine List.map_congr_left fun b hm => (st_all ⟨b, hb b hm⟩).2.2.2
  rw [h4] at h3
  refine ⟨val (l.map st1), val ((l.map st1).map st2), l.map (pop 8), ?_, hlt1, ?_, ?_, ?_, by rw [List.length_map, hl], ?_, hp.symm⟩
  · rw [e1]; exact h1
  · rw [e2]; exact h2
  · omega
  · rw [e3]; exact h3
  · intro b hm
    obtain ⟨c, _, rfl⟩ := List.mem_map.1 hm
    exact pop_le 8 c
theorem shift1 (a b : Nat) (ha : a < 256) : (a + 256 * b) / 256 = b := by omega
theorem shift2 (a b c : Nat) (ha : a < 256) (hb : b < 256) : (a + 256 * (b + 256 * c)) / 65536 = c := by omega
theorem shift4 (a b c d e : Nat) (ha : a < 256) (hb : b < 256) (hc : c < 256) (hd : d < 256) : (a + 256 * (b + 256 * (c + 256 * (d + 256 * e)))) / 4294967296 = e := by omega
theorem swar_sum (l : List Nat) (hl : l.length = 8) (hb : ∀ b ∈ l, b ≤ 8) : ∃ s4 s5 s6, val l + val l / 256 = s4 ∧ s4 + s4 / 65536 = s5 ∧ s5 + s5 / 4294967296 = s6 ∧
      s4 < 18446744073709551616 ∧ s5 < 18446744073709551616 ∧ s6 < 18446744073709551616 ∧ s6 % 128 = l.sum := by
  obtain ⟨y0, y1, y2, y3, y4, y5, y6, y7, rfl⟩ := eight l hl
  have h0 := hb y0 (by simp)
  have h1 := hb y1 (by simp)
  have h2 := hb y2 (by simp)
  have h3 := hb y3 (by simp)
  have h4 := hb y4 (by simp)
  have h5 := hb y5 (by simp)
  have h6 := hb y6 (by simp)
  have h7 := hb y7 (by simp)
  clear hb hl
  have a4 : val [y0, y1, y2, y3, y4, y5, y6, y7] + val [y0, y1, y2, y3, y4, y5, y6, y7] / 256 = val [y0 + y1, y1 + y2, y2 + y3, y3 + y4, y4 + y5, y5 + y6, y6 + y7, y7] := by
    rw [val8, val8, shift1 _ _ (by omega)]
    omega
  have a5 : val [y0 + y1, y1 + y2, y2 + y3, y3 + y4, y4 + y5, y5 + y6, y6 + y7, y7] + val [y0 + y1, y1 + y2, y2 + y3, y3 + y4, y4 + y5, y5 + y6, y6 + y7, y7] / 65536 =
      val [y0 + y1 + (y2 + y3), y1 + y2 + (y3 + y4), y2 + y3 + (y4 + y5), y3 + y4 + (y5 + y6), y4 + y5 + (y6 + y7), y5 + y6 + y7, y6 + y7, y7] := by
    rw [val8, val8, shift2 _ _ _ (by omega) (by omega)]
    omega
  have a6 : val [y0 + y1 + (y2 + y3), y1 + y2 + (y3 + y4), y2 + y3 + (y4 + y5), y3 + y4 + (y5 + y6), y4 + y5 + (y6 + y7), y5 + y6 + y7, y6 + y7, y7] +
      val [y0 + y1 + (y2 + y3), y1 + y2 + (y3 + y4), y2 + y3 + (y4 + y5), y3 + y4 + (y5 + y6), y4 + y5 + (y6 + y7), y5 + y6 + y7, y6 + y7, y7] / 4294967296 =
      val [y0 + y1 + (y2 + y3) + (y4 + y5 + (y6 + y7)), y1 + y2 + (y3 + y4) + (y5 + y6 + y7), y2 + y3 + (y4 + y5) + (y6 + y7), y3 + y4 + (y5 + y6) + y7, y4 + y5 + (y6 + y7), y5 + y6 + y7, y6 + y7, y7] := by
    rw [val8, val8, shift4 _ _ _ _ _ (by omega) (by omega) (by omega) (by omega)]
    omega
  refine ⟨_, _, _, a4, a5, a6, ?_, ?_, ?_, ?_⟩
  · rw [val8]; omega
  · rw [val8]; omega
  · rw [val8]; omega
  · rw [val8]
    simp only [List.sum_cons, List.sum_nil]
    omega
end Go.Proofs.YtijldedhcjkhiaaDoorM
