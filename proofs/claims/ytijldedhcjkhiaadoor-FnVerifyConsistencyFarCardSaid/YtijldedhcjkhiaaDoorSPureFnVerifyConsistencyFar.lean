import Derived.Test.YtijldedhcjkhiaaDoorSVerify
import Derived.Test.YtijldedhcjkhiaaDoorSX15
namespace Go.Proofs.YtijldedhcjkhiaaDoor.Pure
open Go.RowKit Go.Proofs.YtijldedhcjkhiaaDoorW.PrintWords Go.Proofs.YtijldedhcjkhiaaDoorW.PrintLast Go.Proofs.YtijldedhcjkhiaaDoorW.PrintMore X Go.Proofs.YtijldedhcjkhiaaDoorM
set_option linter.unusedVariables false
theorem bit_low (s q j : Nat) (hj : j < s) : (2 ^ s * (2 * q + 1)).testBit j = false := by
  rw [Nat.testBit_two_pow_mul]
  simp
  omega
theorem bit_at (s q : Nat) : (2 ^ s * (2 * q + 1)).testBit s = true := by
  rw [Nat.testBit_two_pow_mul]
  simp
theorem level_loop (s q : Nat) (x2 : Int) (x3 : List (List Int)) (x4 x5 : List Int) (x13 : Int) (x16 : List Int) (x17 : List (List Int)) (h : Hs) (hs : s < 64) (ha : 2 ^ s * (2 * q + 1) < 18446744073709551616) (f : Nat) : ∀ (j k : Nat), j + f = s →
    laws_FnVerifyConsistencyFar.l0 (k + f + 1) ((2 ^ s * (2 * q + 1) : Nat) : Int) x2 x3 x4 x5 x13 (j : Int) x16 x17 h.k h.s h.b h.e h.l h.n = laws_FnVerifyConsistencyFar.j6 k ((2 ^ s * (2 * q + 1) : Nat) : Int) x2 x3 x4 x5 x13 (s : Int) x16 x17 h.k h.s h.b h.e h.l h.n := by
  induction f with
  | zero =>
    intro j k hj
    have hb := bit_test _ j ha (by omega)
    rw [u64_small j (by omega), show j = s by omega, bit_at] at hb
    rw [show j = s by omega]
    simp only [laws_FnVerifyConsistencyFar.l0]
    rw [if_pos (by omega), hb, if_neg (by simp)]
  | succ f ih =>
    intro j k hj
    have hb := bit_test _ j ha (by omega)
    rw [u64_small j (by omega), bit_low s q j (by omega)] at hb
    rw [show k + (f + 1) + 1 = (k + f + 1) + 1 by omega]
    rw [laws_FnVerifyConsistencyFar.l0]
    rw [if_pos (by omega), hb, if_pos (by simp), wrap64_succ (by omega) (by omega), show ((j : Int) + 1) = ((j + 1 : Nat) : Int) by omega]
    exact ih (j + 1) k (by omega)
theorem spec_up (h : Hs) (right : Bool) (node n k : Nat) (seed : List Int) (rest : List (List Int)) (hnode : node < 18446744073709551616) (hn : n ≤ rest.length) (hn64 : n ≤ 64) (hl : rest.length ≤ n + 64) (hx : ∀ x ∈ rest, x.length ≤ 5000) (hs : seed.length ≤ 5000) (hk : 30001000 < k) :
    ∃ c, spec_Chained.f k h.k h.s h.b h.e h.l h.n seed (rest.take n) (node : Int) right = some c ∧ spec_Chained.f k h.k h.s h.b h.e h.l h.n c (rest.drop n) 18446744073709551615 true = some (if right then up1 h node n seed rest else up2 h node n seed rest) := by
  have hlt : (rest.take n).length = n := by rw [List.length_take]; omega
  have hld : (rest.drop n).length = rest.length - n := List.length_drop
  have hxt : ∀ x ∈ rest.take n, x.length ≤ 5000 := fun x hx' => hx x (List.mem_of_mem_take hx')
  have hxd : ∀ x ∈ rest.drop n, x.length ≤ 5000 := fun x hx' => hx x (List.mem_of_mem_drop hx')
  obtain ⟨c1, c2, c3, c4, c5, c6, c7, c8⟩ := core h node n 30001001 seed rest seed seed hnode hn (by omega) hx hs (by omega)
  refine ⟨_, chained_eq h node hnode right (rest.take n) seed k (by omega) hxt (by omega) (by omega), ?_⟩
  cases right with
  | true => exact chained_ones h (rest.drop n) _ k (by omega) hxd (by rw [if_pos rfl]; omega) (by omega)
  | false => exact chained_ones h (rest.drop n) _ k (by omega) hxd (by rw [if_neg (by simp)]; omega) (by omega)
theorem last_part (h : Hs) (s q b k : Nat) (proof : List (List Int)) (root1 root2 : List Int) (hab : 2 ^ s * (2 * q + 1) < b) (hb : b < 18446744073709551616) (hs64 : s < 64)
    (hl : proof.length ≤ 300) (hx : ∀ x ∈ proof, x.length ≤ 5000) (hr1 : root1.length ≤ 5000) (hk : 30001000 < k) (hlen : proof.length = (if q = 0 then 0 else 1) + cn s q b + cb s q b) :
    laws_FnVerifyConsistencyFar.j6 (k + 1) ((2 ^ s * (2 * q + 1) : Nat) : Int) (b : Int) proof root1 root2 (grade (up1 h (2 * q) (cn s q b) (seedOf q proof root1) (restOf q proof)) (up2 h (2 * q) (cn s q b) (seedOf q proof root1) (restOf q proof)) root1 root2) (s : Int) root1 proof h.k h.s h.b h.e h.l h.n = some true := by
  have hap : 0 < 2 ^ s * (2 * q + 1) := Nat.mul_pos (two_pow_pos s) (by omega)
  have hin := inn_ge s q b hab hb
  have hle := inn_le (2 ^ s * (2 * q + 1) - 1) b 64 (by omega) (by rw [pow64]; omega) (Nat.le_refl _)
  have hle2 : cb s q b ≤ 64 := pop_le _ _
  have hle1 : cn s q b ≤ 64 := by unfold cn; omega
  have hdiv := low_div s q
  have hpw := pow_iff s q
  have hlow : (2 * q) < 18446744073709551616 := by rw [← hdiv]; exact Nat.lt_of_le_of_lt (Nat.div_le_self _ _) (by omega)
  have hps := pow_lt hs64
  rw [pow64] at hps
  have hbs : (b - 1) / 2 ^ s < 18446744073709551615 := Nat.lt_of_le_of_lt (Nat.div_le_self _ _) (by omega)
  have hinner := inner_eq (2 * q) ((b - 1) / 2 ^ s) k hlow (by omega) (by omega)
  have hcn : Lib.bitLen ((2 * q) ^^^ ((b - 1) / 2 ^ s)) = cn s q b := by
    rw [← hdiv, ← xor_div, bitLen_div _ _ (xor_lt64 (by omega) (by omega))]
    rfl
  rw [hcn] at hinner
  generalize cn s q b = n at *
  generalize cb s q b = B at *
  generalize 2 ^ s * (2 * q + 1) = a at *
  have e1 : IntKind.u64.wrap ((a : Int) - 1) = ((a - 1 : Nat) : Int) := by
    have := u64_sub a 1 (by omega) (by omega)
    rwa [show ((1 : Nat) : Int) = 1 from rfl] at this
  have e1b : IntKind.u64.wrap ((b : Int) - 1) = ((b - 1 : Nat) : Int) := by
    have := u64_sub b 1 (by omega) (by omega)
    rwa [show ((1 : Nat) : Int) = 1 from rfl] at this
  have e3 : shl .u64 1 (s : Int) = ((2 ^ s : Nat) : Int) := by
    have := shl_nat 1 s (by omega)
    rwa [Nat.one_mul, Nat.mod_eq_of_lt hps, show ((1 : Nat) : Int) = 1 from rfl] at this
  have e4 : shr .u64 ((a - 1 : Nat) : Int) (s : Int) = ((2 * q : Nat) : Int) := by rw [shr_nat _ _ (by omega), hdiv]
  have e4b : shr .u64 ((b - 1 : Nat) : Int) (s : Int) = (((b - 1) / 2 ^ s : Nat) : Int) := by rw [shr_nat _ _ (by omega)]
  have e5 : IntKind.u64.wrap ((((b - 1) / 2 ^ s : Nat) : Int) + 1) = (((b - 1) / 2 ^ s : Nat) : Int) + 1 := by
    have := u64_small ((b - 1) / 2 ^ s + 1) (by omega)
    simpa using this
  have done : ∀ (f1 f2 : List Int), (if same f1 root1 = true then ((spec_SameText.f f2 root2).bind fun t727 => (if t727 = true then (some (grade f1 f2 root1 root2 == 0)) else (some (grade f1 f2 root1 root2 == 1)))) else (some (grade f1 f2 root1 root2 == 1))) = some true := by
    intro f1 f2
    rw [sameText_eq]
    unfold grade
    by_cases h1 : same f1 root1 = true
    · rw [if_pos h1, if_pos h1, Option.bind_some]
      by_cases h2 : same f2 root2 = true
      · rw [if_pos h2, if_pos h2]; rfl
      · rw [if_neg h2, if_neg h2]; rfl
    · rw [if_neg h1, if_neg h1]; rfl
  simp only [laws_FnVerifyConsistencyFar.j6]
  rw [if_pos (by omega), e1, e1b, e3, e4, e4b, e5, hinner, Option.bind_some]
  unfold seedOf restOf
  by_cases hq : q = 0
  · rw [if_pos hq] at hlen
    rw [if_pos (by rw [hpw.2 hq]), if_pos (by omega), if_pos (by omega), if_pos hq, if_pos hq, Int.toNat_natCast]
    obtain ⟨c, d1, d2⟩ := spec_up h true (2 * q) n k root1 proof hlow (by omega) hle1 (by omega) hx hr1 hk
    obtain ⟨c', d3, d4⟩ := spec_up h false (2 * q) n k root1 proof hlow (by omega) hle1 (by omega) hx hr1 hk
    rw [d1, Option.bind_some, d2, Option.bind_some, d3, Option.bind_some, d4, Option.bind_some, sameText_eq, Option.bind_some]
    exact done _ _
  · rw [if_neg hq] at hlen
    have hdl : (proof.drop 1).length = proof.length - 1 := List.length_drop
    have h00 : (rd_L4 proof 0).length ≤ 5000 := by
      obtain ⟨x, xs, rfl⟩ : ∃ x xs, proof = x :: xs := by
        cases proof with
        | nil => simp at hlen; omega
        | cons x xs => exact ⟨x, xs, rfl⟩
      exact hx x (by simp)
    rw [if_neg (by intro hh; apply hq; apply hpw.1; omega), if_pos (by omega), if_pos (by omega), Option.bind_some, Option.bind_some, if_pos (by omega), if_pos (by omega), if_neg hq, if_neg hq, Int.toNat_natCast]
    obtain ⟨c, d1, d2⟩ := spec_up h true (2 * q) n k (rd_L4 proof 0) (proof.drop 1) hlow (by omega) hle1 (by omega) (fun x hx' => hx x (List.mem_of_mem_drop hx')) h00 hk
    obtain ⟨c', d3, d4⟩ := spec_up h false (2 * q) n k (rd_L4 proof 0) (proof.drop 1) hlow (by omega) hle1 (by omega) (fun x hx' => hx x (List.mem_of_mem_drop hx')) h00 hk
    rw [d1, Option.bind_some, d2, Option.bind_some, d3, Option.bind_some, d4, Option.bind_some, sameText_eq, Option.bind_some]
    exact done _ _
theorem FnVerifyConsistencyFar (a0_0 : Int) (a0_1 : Int) (a0_2 : Int) (a0_3 : Int) (a0_4 : Int) (a0_5 : Int) (w0 : ((Lit.int .i64 a0_0).wf = true) ∧ ((Lit.int .i64 a0_1).wf = true) ∧ ((Lit.int .i64 a0_2).wf = true) ∧ ((Lit.int .u64 a0_3).wf = true) ∧ ((Lit.int .u64 a0_4).wf = true) ∧ ((Lit.int .u64 a0_5).wf = true)) (a1 : Int) (w1 : (Lit.int .u64 a1).wf = true) (a2 : Int) (w2 : (Lit.int .u64 a2).wf = true) (l3 : List (List Int)) (w3 : l3.length ≤ maxLen ∧ ∀ y ∈ l3, y.length ≤ maxLen ∧ ∀ y' ∈ y, (Lit.int .u8 y').wf = true) (l4 : List Int) (w4 : l4.length ≤ maxLen ∧ ∀ y ∈ l4, (Lit.int .u8 y).wf = true) (l5 : List Int) (w5 : l5.length ≤ maxLen ∧ ∀ y ∈ l5, (Lit.int .u8 y).wf = true) :
    ∃ k, X.laws_FnVerifyConsistencyFar.f k a0_0 a0_1 a0_2 a0_3 a0_4 a0_5 a1 a2 l3 l4 l5 = some true := by
  obtain ⟨a, rfl, ha64⟩ := wf_u64 a1 w1
  obtain ⟨b, rfl, hb64⟩ := wf_u64 a2 w2
  generalize hK : 30002000 + l3.length = K
  have out : ∀ k, laws_FnVerifyConsistencyFar.j0 (k + 1) (a : Int) (b : Int) l3 l4 l5 true a0_0 a0_1 a0_2 a0_3 a0_4 a0_5 = some true := fun k => by simp only [laws_FnVerifyConsistencyFar.j0, if_true]
  have out2 : ∀ k, laws_FnVerifyConsistencyFar.j2 (k + 1) (a : Int) (b : Int) l3 l4 l5 true a0_0 a0_1 a0_2 a0_3 a0_4 a0_5 = some true := fun k => by simp only [laws_FnVerifyConsistencyFar.j2, if_true]
  refine ⟨K + 7 + 64, ?_⟩
  unfold laws_FnVerifyConsistencyFar.f
  obtain ⟨z, e, p⟩ := fits_eq l3 (K + 7 + 64) (by omega)
  rw [e, Option.bind_some]
  cases z with
  | false => exact out (K + 6 + 64)
  | true =>
  rw [if_pos rfl]
  by_cases h4 : (l4.length : Int) > 2147483647
  · rw [if_pos h4]
    exact out (K + 6 + 64)
  rw [if_neg h4]
  by_cases h5 : (l5.length : Int) > 2147483647
  · simp only [h5, decide_true]
    exact out (K + 6 + 64)
  simp only [h5, decide_false]
  have q := (p rfl).1
  rw [show K + 7 + 64 = (K + 6 + 64) + 1 by omega]
  simp only [laws_FnVerifyConsistencyFar.j0, Bool.false_eq_true, if_false]
  rw [show K + 6 + 64 = (K + 5 + 64) + 1 by omega]
  simp only [laws_FnVerifyConsistencyFar.j1]
  obtain ⟨z, e, p2⟩ := small_eq l3 (K + 5 + 64) (by omega) (by omega)
  rw [e, Option.bind_some]
  cases z with
  | false => exact out2 (K + 4 + 64)
  | true =>
  obtain ⟨px, pl⟩ := p2 rfl
  rw [if_pos rfl]
  by_cases h6 : (l4.length : Int) > 5000
  · rw [if_pos h6]
    exact out2 (K + 4 + 64)
  rw [if_neg h6]
  by_cases h7 : (a : Int) = 0
  · rw [if_pos h7]
    exact out2 (K + 4 + 64)
  rw [if_neg h7]
  by_cases h8 : (a : Int) ≥ (b : Int)
  · simp only [h8, decide_true]
    exact out2 (K + 4 + 64)
  simp only [h8, decide_false]
  rw [show K + 5 + 64 = (K + 4 + 64) + 1 by omega]
  simp only [laws_FnVerifyConsistencyFar.j2, Bool.false_eq_true, if_false]
  rw [show K + 4 + 64 = (K + 3 + 64) + 1 by omega]
  simp only [laws_FnVerifyConsistencyFar.j3]
  obtain ⟨s, t, rfl, hs64, hctz⟩ := ctz_spec a (by omega) ha64
  have hab : 2 ^ s * (2 * t + 1) < b := by omega
  obtain ⟨g, y, hg, hgr⟩ := impl_verify ⟨a0_0, a0_1, a0_2, a0_3, a0_4, a0_5⟩ s t b (K + 3 + 64) l3 l4 l5 hab hb64 hs64 hctz pl px (by omega) (by omega) (by omega)
  rw [show impl_VerifyConsistency.f (K + 3 + 64) a0_0 a0_1 a0_2 a0_3 a0_4 a0_5 _ _ l3 l4 l5 = _ from hg, Option.bind_some]
  obtain ⟨L, hL, hlen⟩ := proofParts_len s t b (K + 3 + 64) hab hb64 (by omega)
  rw [hL, Option.bind_some]
  have hin := inn_ge s t b hab hb64
  have hLl : L.length = (if t = 0 then 0 else 1) + cn s t b + cb s t b := by
    unfold cn cb
    omega
  by_cases hp : l3.length = (if t = 0 then 0 else 1) + cn s t b + cb s t b
  · rw [if_pos (by omega), hgr, if_pos hp]
    rw [show K + 3 + 64 = (K + 2 + 64) + 1 by omega]
    simp only [laws_FnVerifyConsistencyFar.j4]
    rw [show K + 2 + 64 = (K + 65 - s) + s + 1 by omega]
    rw [show laws_FnVerifyConsistencyFar.l0 (K + 65 - s + s + 1) _ _ l3 l4 l5 _ 0 l4 l3 a0_0 a0_1 a0_2 a0_3 a0_4 a0_5 = _ from level_loop s t b l3 l4 l5 _ l4 l3 ⟨a0_0, a0_1, a0_2, a0_3, a0_4, a0_5⟩ hs64 (by omega) s 0 (K + 65 - s) (by omega)]
    rw [show K + 65 - s = (K + 64 - s) + 1 by omega]
    exact last_part ⟨a0_0, a0_1, a0_2, a0_3, a0_4, a0_5⟩ s t b (K + 64 - s) l3 l4 l5 hab hb64 hs64 pl px (by omega) (by omega) hp
  · rw [if_neg (by omega), hgr, if_neg hp]
    rfl
end Go.Proofs.YtijldedhcjkhiaaDoor.Pure
