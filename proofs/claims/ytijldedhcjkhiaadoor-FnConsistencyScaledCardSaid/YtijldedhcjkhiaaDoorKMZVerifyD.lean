import Derived.Test.YtijldedhcjkhiaaDoorKMZConsD
import Derived.Test.YtijldedhcjkhiaaDoorKZ5
namespace Go.Proofs.YtijldedhcjkhiaaDoor.Pure
open Go.RowKit Go.Proofs.YtijldedhcjkhiaaDoorW.PrintWords Go.Proofs.YtijldedhcjkhiaaDoorW.PrintLast Go.Proofs.YtijldedhcjkhiaaDoorW.PrintMore Z Go.Proofs.YtijldedhcjkhiaaDoorM
set_option linter.unusedVariables false
def same (x y : List Int) : Bool := (strOfNums x).toList == (strOfNums y).toList
def matched (x y : List Int) : Option Int × List Int × List Int := if same x y = true then (none, [], []) else (some 1, x, y)
theorem match_eq (x y : List Int) : proof_verifyMatch.f x y = some (matched x y) := by
  unfold proof_verifyMatch.f bytes_Equal.f matched
  rw [Option.bind_some]
  show (if same x y = true then _ else _) = _
  split <;> rfl
def up1 (h : Hs) (node n : Nat) (seed : List Int) (rest : List (List Int)) : List Int := border (H h) (chainR (H h) node 0 seed (rest.take n)) (rest.drop n)
def up2 (h : Hs) (node n : Nat) (seed : List Int) (rest : List (List Int)) : List Int := border (H h) (chain (H h) node 0 seed (rest.take n)) (rest.drop n)
def answer (f1 f2 root1 root2 : List Int) : Option Int × List Int × List Int := if same f1 root1 = true then matched f2 root2 else (some 1, f1, root1)
theorem core (h : Hs) (node n k : Nat) (seed : List Int) (rest : List (List Int)) (root1 root2 : List Int) (hnode : node < 18446744073709551616) (hn : n ≤ rest.length) (hl : rest.length ≤ 300) (hx : ∀ x ∈ rest, x.length ≤ 5000) (hs : seed.length ≤ 5000) (hk : 30001000 < k) :
    (proof_chainInnerRight.f k h.k h.s h.b h.e h.l h.n seed (rest.take n) (node : Int)) = some (chainR (H h) node 0 seed (rest.take n)) ∧
    (proof_chainBorderRight.f k h.k h.s h.b h.e h.l h.n (chainR (H h) node 0 seed (rest.take n)) (rest.drop n)) = some (up1 h node n seed rest) ∧
    (proof_chainInner.f k h.k h.s h.b h.e h.l h.n seed (rest.take n) (node : Int)) = some (chain (H h) node 0 seed (rest.take n)) ∧
    (proof_chainBorderRight.f k h.k h.s h.b h.e h.l h.n (chain (H h) node 0 seed (rest.take n)) (rest.drop n)) = some (up2 h node n seed rest) ∧
    (up1 h node n seed rest).length ≤ 4000000 ∧ (up2 h node n seed rest).length ≤ 4000000 ∧ (chainR (H h) node 0 seed (rest.take n)).length ≤ 4000000 ∧ (chain (H h) node 0 seed (rest.take n)).length ≤ 4000000 := by
  have hlt : (rest.take n).length = n := by rw [List.length_take]; omega
  have hld : (rest.drop n).length = rest.length - n := List.length_drop
  have hxt : ∀ x ∈ rest.take n, x.length ≤ 5000 := fun x hx' => hx x (List.mem_of_mem_take hx')
  have hxd : ∀ x ∈ rest.drop n, x.length ≤ 5000 := fun x hx' => hx x (List.mem_of_mem_drop hx')
  obtain ⟨a1, a2⟩ := innerR_run h node hnode (rest.take n) [] seed k (by rw [List.nil_append]; omega) hxt (by simp; omega) (by omega)
  obtain ⟨b1, b2⟩ := inner_run h node hnode (rest.take n) [] seed k (by rw [List.nil_append]; omega) hxt (by simp; omega) (by omega)
  rw [List.length_nil] at a2 b2
  have m1 : (rest.take n).length * 6000 ≤ 300 * 6000 := Nat.mul_le_mul_right _ (by omega)
  have m2 : (rest.drop n).length * 6000 ≤ 300 * 6000 := Nat.mul_le_mul_right _ (by omega)
  obtain ⟨c1, c2⟩ := border_run h (rest.drop n) [] (chainR (H h) node 0 seed (rest.take n)) k (by rw [List.nil_append]; omega) hxd (by simp; omega) (by omega)
  obtain ⟨d1, d2⟩ := border_run h (rest.drop n) [] (chain (H h) node 0 seed (rest.take n)) k (by rw [List.nil_append]; omega) hxd (by simp; omega) (by omega)
  exact ⟨a1, c1, b1, d1, by unfold up1; omega, by unfold up2; omega, by omega, by omega⟩
def cn (s q b : Nat) : Nat := inn (2 ^ s * (2 * q + 1) - 1) b - s
def cb (s q b : Nat) : Nat := bor (2 ^ s * (2 * q + 1) - 1) b
def seedOf (q : Nat) (proof : List (List Int)) (root1 : List Int) : List Int := if q = 0 then root1 else rd_L1 proof 0
def restOf (q : Nat) (proof : List (List Int)) : List (List Int) := if q = 0 then proof else proof.drop 1
theorem pow_iff (s q : Nat) : 2 ^ s * (2 * q + 1) = 2 ^ s ↔ q = 0 := by
  constructor
  · intro h
    exact (two_odd s q s h).1
  · intro h
    rw [h]
    simp
theorem verify_eq (h : Hs) (s q b k : Nat) (proof : List (List Int)) (root1 root2 : List Int) (hab : 2 ^ s * (2 * q + 1) < b) (hb : b < 18446744073709551616) (hs64 : s < 64) (hctz : Lib.ctz 64 (2 ^ s * (2 * q + 1)) = s)
    (hl : proof.length ≤ 300) (hx : ∀ x ∈ proof, x.length ≤ 5000) (hr1 : root1.length ≤ 5000) (hk : 30001000 < k) :
    (proof.length = (if q = 0 then 0 else 1) + cn s q b + cb s q b → proof_VerifyConsistency.f k h.k h.s h.b h.e h.l h.n ((2 ^ s * (2 * q + 1) : Nat) : Int) (b : Int) proof root1 root2 = some (answer (up1 h (2 * q) (cn s q b) (seedOf q proof root1) (restOf q proof)) (up2 h (2 * q) (cn s q b) (seedOf q proof root1) (restOf q proof)) root1 root2)) ∧
    (¬ proof.length = (if q = 0 then 0 else 1) + cn s q b + cb s q b → ∃ x y, proof_VerifyConsistency.f k h.k h.s h.b h.e h.l h.n ((2 ^ s * (2 * q + 1) : Nat) : Int) (b : Int) proof root1 root2 = some (some 0, x, y)) := by
  have hap : 0 < 2 ^ s * (2 * q + 1) := Nat.mul_pos (two_pow_pos s) (by omega)
  have hin := inn_ge s q b hab hb
  have hle := inn_le (2 ^ s * (2 * q + 1) - 1) b 64 (by omega) (by rw [pow64]; omega) (Nat.le_refl _)
  have hle2 : bor (2 ^ s * (2 * q + 1) - 1) b ≤ 64 := pop_le _ _
  have hdec := decomp_incl (2 ^ s * (2 * q + 1) - 1) b (by omega) hb
  have hdiv := low_div s q
  have hpw := pow_iff s q
  have hlow : (2 * q) < 18446744073709551616 := by rw [← hdiv]; exact Nat.lt_of_le_of_lt (Nat.div_le_self _ _) (by omega)
  have hps := pow_lt hs64
  rw [pow64] at hps
  unfold cn cb
  generalize inn (2 ^ s * (2 * q + 1) - 1) b = I at *
  generalize bor (2 ^ s * (2 * q + 1) - 1) b = B at *
  generalize 2 ^ s * (2 * q + 1) = a at *
  have e1 : IntKind.u64.wrap ((a : Int) - 1) = ((a - 1 : Nat) : Int) := by
    have := u64_sub a 1 (by omega) (by omega)
    rwa [show ((1 : Nat) : Int) = 1 from rfl] at this
  have e2 : bits_TrailingZeros64.f (a : Int) = some (s : Int) := by
    unfold bits_TrailingZeros64.f
    rw [if_pos (by omega), if_pos (by omega), Int.toNat_natCast, hctz]
  have e3 : shl .u64 1 (s : Int) = ((2 ^ s : Nat) : Int) := by
    have := shl_nat 1 s (by omega)
    rwa [Nat.one_mul, Nat.mod_eq_of_lt hps, show ((1 : Nat) : Int) = 1 from rfl] at this
  have e4 : shr .u64 ((a - 1 : Nat) : Int) (s : Int) = ((2 * q : Nat) : Int) := by rw [shr_nat _ _ (by omega), hdiv]
  have e5 : IntKind.u64.wrap (s : Int) = (s : Int) := u64_small s (by omega)
  have e6 : wrap64 ((I : Int) - (s : Int)) = ((I - s : Nat) : Int) := by rw [wrap64_of (by omega) (by omega)]; omega
  obtain ⟨st, hst, hst0, hst1⟩ : ∃ st : Nat, (if q = 0 then 0 else 1) = st ∧ (q = 0 → st = 0) ∧ (q ≠ 0 → st = 1) := ⟨_, rfl, fun h => if_pos h, fun h => if_neg h⟩
  have hst2 : st ≤ 1 := by
    by_cases h : q = 0
    · have := hst0 h; omega
    · have := hst1 h; omega
  rw [hst]
  unfold proof_VerifyConsistency.f
  rw [if_neg (by omega), if_neg (by omega), if_neg (by omega)]
  by_cases h0 : (proof.length : Int) = 0
  · rw [if_pos h0]
    constructor
    · intro hlen
      exfalso
      omega
    · intro _
      exact ⟨[], [], rfl⟩
  rw [if_neg h0, e1, hdec, Option.bind_some, e2, Option.bind_some]
  dsimp only
  rw [if_pos (by omega), e5, if_pos (by omega), e3, e6, e4]
  unfold seedOf restOf
  by_cases hq : q = 0
  · rw [if_pos (by rw [hpw.2 hq]), if_pos hq, if_pos hq, hst0 hq, wrap64_of (i := ((I - s : Nat) : Int)) (by omega) (by omega), wrap64_of (by omega) (by omega)]
    by_cases hlen : proof.length = 0 + (I - s) + B
    · rw [if_pos (by omega), if_pos (by omega), Option.bind_some, List.drop_zero, if_pos (by omega), if_pos (by omega), Int.toNat_natCast]
      obtain ⟨c1, c2, c3, c4, c5, c6, c7, c8⟩ := core h (2 * q) (I - s) k root1 proof root1 root2 hlow (by omega) hl hx hr1 hk
      refine ⟨fun _ => ?_, fun hne => absurd hlen hne⟩
      rw [c1, Option.bind_some, c2, Option.bind_some, match_eq, Option.bind_some, c3, Option.bind_some, c4, Option.bind_some, match_eq, Option.bind_some]
      unfold answer
      by_cases hm : same (up1 h (2 * q) (I - s) root1 proof) root1 = true
      · have : matched (up1 h (2 * q) (I - s) root1 proof) root1 = (none, [], []) := if_pos hm
        rw [this, if_pos hm]
        rfl
      · have : matched (up1 h (2 * q) (I - s) root1 proof) root1 = (some 1, up1 h (2 * q) (I - s) root1 proof, root1) := if_neg hm
        rw [this, if_neg hm]
        rfl
    · rw [if_neg (by omega)]
      exact ⟨fun hh => absurd hh hlen, fun _ => ⟨[], [], rfl⟩⟩
  · rw [if_neg (by intro hh; apply hq; apply hpw.1; omega), if_neg hq, if_neg hq, hst1 hq, wrap64_of (i := 1 + _) (by omega) (by omega), wrap64_of (by omega) (by omega)]
    by_cases hlen : proof.length = 1 + (I - s) + B
    · have hdl : (proof.drop 1).length = proof.length - 1 := List.length_drop
      have h00 : (rd_L1 proof 0).length ≤ 5000 := by
        obtain ⟨x, xs, rfl⟩ : ∃ x xs, proof = x :: xs := by
          cases proof with
          | nil => simp at h0
          | cons x xs => exact ⟨x, xs, rfl⟩
        exact hx x (by simp)
      rw [if_pos (by omega), if_pos (by omega), Option.bind_some, if_pos (by omega), if_pos (by omega), Int.toNat_natCast]
      obtain ⟨c1, c2, c3, c4, c5, c6, c7, c8⟩ := core h (2 * q) (I - s) k (rd_L1 proof 0) (proof.drop 1) root1 root2 hlow (by omega) (by omega) (fun x hx' => hx x (List.mem_of_mem_drop hx')) h00 hk
      refine ⟨fun _ => ?_, fun hne => absurd hlen hne⟩
      rw [c1, Option.bind_some, c2, Option.bind_some, match_eq, Option.bind_some, c3, Option.bind_some, c4, Option.bind_some, match_eq, Option.bind_some]
      unfold answer
      by_cases hm : same (up1 h (2 * q) (I - s) (rd_L1 proof 0) (proof.drop 1)) root1 = true
      · have : matched (up1 h (2 * q) (I - s) (rd_L1 proof 0) (proof.drop 1)) root1 = (none, [], []) := if_pos hm
        rw [this, if_pos hm]
        rfl
      · have : matched (up1 h (2 * q) (I - s) (rd_L1 proof 0) (proof.drop 1)) root1 = (some 1, up1 h (2 * q) (I - s) (rd_L1 proof 0) (proof.drop 1), root1) := if_neg hm
        rw [this, if_neg hm]
        rfl
    · rw [if_neg (by omega)]
      exact ⟨fun hh => absurd hh hlen, fun _ => ⟨[], [], rfl⟩⟩
def grade (f1 f2 root1 root2 : List Int) : Int := if same f1 root1 = true then (if same f2 root2 = true then 0 else 1) else 1
theorem up_len (h : Hs) (s q b : Nat) (proof : List (List Int)) (root1 root2 : List Int) (hl : proof.length ≤ 300) (hx : ∀ x ∈ proof, x.length ≤ 5000) (hr1 : root1.length ≤ 5000) (hlow : 2 * q < 18446744073709551616) (hlen : proof.length = (if q = 0 then 0 else 1) + cn s q b + cb s q b) :
    (up1 h (2 * q) (cn s q b) (seedOf q proof root1) (restOf q proof)).length ≤ 4000000 ∧ (up2 h (2 * q) (cn s q b) (seedOf q proof root1) (restOf q proof)).length ≤ 4000000 := by
  have hseed : (seedOf q proof root1).length ≤ 5000 := by
    unfold seedOf
    split
    · exact hr1
    · rename_i hq
      rw [if_neg hq] at hlen
      cases proof with
      | nil => simp at hlen; omega
      | cons x xs => exact hx x (by simp)
  have hrest : (restOf q proof).length = cn s q b + cb s q b := by
    unfold restOf
    split
    · rename_i hq
      rw [if_pos hq] at hlen
      omega
    · rename_i hq
      rw [if_neg hq] at hlen
      rw [List.length_drop]
      omega
  have hrx : ∀ x ∈ restOf q proof, x.length ≤ 5000 := by
    unfold restOf
    split
    · exact hx
    · exact fun x hx' => hx x (List.mem_of_mem_drop hx')
  obtain ⟨c1, c2, c3, c4, c5, c6, c7, c8⟩ := core h (2 * q) (cn s q b) 30001001 (seedOf q proof root1) (restOf q proof) root1 root2 hlow (by omega) (by split at hlen <;> omega) hrx hseed (by omega)
  exact ⟨c5, c6⟩
theorem verdict_eq (f1 f2 root1 root2 : List Int) (h1 : f1.length ≤ 4000000) (h2 : f2.length ≤ 4000000) : ∃ y, impl_verdict.f (answer f1 f2 root1 root2).1 (answer f1 f2 root1 root2).2.1 (answer f1 f2 root1 root2).2.2 = some (grade f1 f2 root1 root2, y) := by
  unfold answer grade matched impl_verdict.f
  by_cases hm : same f1 root1 = true
  · rw [if_pos hm, if_pos hm]
    by_cases hm2 : same f2 root2 = true
    · rw [if_pos hm2, if_pos hm2]
      exact ⟨_, rfl⟩
    · rw [if_neg hm2, if_neg hm2]
      refine ⟨f2, ?_⟩
      rw [if_neg (by simp), if_pos (by rfl), Option.bind_some, if_pos (by simp; omega)]
      rfl
  · rw [if_neg hm, if_neg hm]
    refine ⟨f1, ?_⟩
    rw [if_neg (by simp), if_pos (by rfl), Option.bind_some, if_pos (by simp; omega)]
    rfl
theorem impl_verify (h : Hs) (s q b k : Nat) (proof : List (List Int)) (root1 root2 : List Int) (hab : 2 ^ s * (2 * q + 1) < b) (hb : b < 18446744073709551616) (hs64 : s < 64) (hctz : Lib.ctz 64 (2 ^ s * (2 * q + 1)) = s)
    (hl : proof.length ≤ 300) (hx : ∀ x ∈ proof, x.length ≤ 5000) (hr1 : root1.length ≤ 5000) (hr2 : root2.length ≤ 2147483647) (hk : 30001000 < k) :
    ∃ g y, impl_VerifyConsistency.f k h.k h.s h.b h.e h.l h.n ((2 ^ s * (2 * q + 1) : Nat) : Int) (b : Int) proof root1 root2 = some (g, y) ∧
      g = if proof.length = (if q = 0 then 0 else 1) + cn s q b + cb s q b then grade (up1 h (2 * q) (cn s q b) (seedOf q proof root1) (restOf q proof)) (up2 h (2 * q) (cn s q b) (seedOf q proof root1) (restOf q proof)) root1 root2 else 2 := by
  obtain ⟨v1, v2⟩ := verify_eq h s q b k proof root1 root2 hab hb hs64 hctz hl hx hr1 hk
  have hlow : (2 * q) < 18446744073709551616 := by rw [← low_div s q]; exact Nat.lt_of_le_of_lt (Nat.div_le_self _ _) (by omega)
  unfold impl_VerifyConsistency.f
  rw [texts_eq proof k (by omega) (fun x hx' => by have := hx x hx'; omega) (by omega)]
  simp only [Option.bind_some, List.nil_append, List.length_nil, Nat.zero_add]
  rw [if_pos (by omega), if_pos (by omega)]
  by_cases hlen : proof.length = (if q = 0 then 0 else 1) + cn s q b + cb s q b
  · obtain ⟨u1, u2⟩ := up_len h s q b proof root1 root2 hl hx hr1 hlow hlen
    obtain ⟨y, hy⟩ := verdict_eq _ _ root1 root2 u1 u2
    rw [v1 hlen, Option.bind_some, hy]
    exact ⟨_, _, rfl, by rw [if_pos hlen]⟩
  · obtain ⟨x, y, hxy⟩ := v2 hlen
    rw [hxy, Option.bind_some]
    exact ⟨2, _, rfl, by rw [if_neg hlen]⟩
end Go.Proofs.YtijldedhcjkhiaaDoor.Pure
