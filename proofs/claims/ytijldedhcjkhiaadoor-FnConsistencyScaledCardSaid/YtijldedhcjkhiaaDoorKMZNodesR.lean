import Derived.Test.YtijldedhcjkhiaaDoorKMZTil
import Derived.Test.YtijldedhcjkhiaaDoorKMZPath
import Derived.Test.YtijldedhcjkhiaaDoorKMZDec
import Derived.Test.YtijldedhcjkhiaaDoorKZ9
namespace Go.Proofs.YtijldedhcjkhiaaDoor.Z
open Go.RowKit Go.Proofs.YtijldedhcjkhiaaDoorW.PrintWords Go.Proofs.YtijldedhcjkhiaaDoorW.PrintLast Go.Proofs.YtijldedhcjkhiaaDoorW.PrintMore Go.Proofs.YtijldedhcjkhiaaDoorM
set_option linter.unusedVariables false
def sn (n : Nd) : S70 := ⟨(n.1 : Int), (n.2 : Int)⟩
def cn (n : Nd) : S107 := ⟨(n.1 : Int), (n.2 : Int)⟩
theorem add64 (a b : Nat) (h : a + b < 18446744073709551616) : IntKind.u64.wrap ((a : Int) + (b : Int)) = ((a + b : Nat) : Int) := by
  rw [show (a : Int) + (b : Int) = ((a + b : Nat) : Int) by omega, u64_small _ h]
theorem one_shl' (i : Nat) (hi : i < 64) : shl .u64 1 (i : Int) = ((2 ^ i : Nat) : Int) := by
  have h := shl_nat 1 i (by omega)
  have hp := pow_lt hi
  rw [pow64] at hp
  rw [Nat.one_mul, Nat.mod_eq_of_lt hp] at h
  exact h
structure Row (b e : Nat) (t : List Nd) : Prop where
  til : Til e b t
  sf : SF t
  len : t.length ≤ 128
  lev : ∀ n ∈ t, n.1 < 64
theorem right_run (e : Nat) (he : e < 18446744073709551616) (D : Nat) : ∀ (r c : Nat), D ≤ 64 → c + r = e → r < 2 ^ D → c % 2 ^ D = 0 →
    ∃ t, Til e c t ∧ SF t ∧ t.length = pop 64 r ∧ (∀ n ∈ t, n.1 < D) ∧ ∀ (acc : List S107) (k : Nat), acc.length ≤ 1000 - D → D < k → compact_RangeNodes.l1 k acc (r : Int) (c : Int) = some (acc ++ t.map cn) := by
  induction D with
  | zero =>
    intro r c _ h1 h2 _
    refine ⟨[], by show c = e; rw [Nat.pow_zero] at h2; omega, trivial, by rw [Nat.pow_zero] at h2; rw [show r = 0 by omega, pop_zero]; rfl, by simp, ?_⟩
    intro acc k _ hk
    obtain ⟨k, rfl⟩ : ∃ m, k = m + 1 := ⟨k - 1, by omega⟩
    simp only [compact_RangeNodes.l1]
    rw [if_pos (by rw [Nat.pow_zero] at h2; omega)]
    simp
  | succ D ih =>
    intro r c hD h1 h2 h3
    have hp := two_pow_pos D
    have e1 : 2 ^ (D + 1) = 2 ^ D * 2 := Nat.pow_succ ..
    have hc : c % 2 ^ D = 0 := Nat.mod_eq_zero_of_dvd (Nat.dvd_trans (Nat.pow_dvd_pow 2 (by omega)) (Nat.dvd_of_mod_eq_zero h3))
    by_cases hr : r < 2 ^ D
    · obtain ⟨t, g1, g2, g3, g4, g5⟩ := ih r c (by omega) h1 hr hc
      exact ⟨t, g1, g2, g3, fun n hn => by have := g4 n hn; omega, fun acc k ha hk => g5 acc k (by omega) (by omega)⟩
    · obtain ⟨t, g1, g2, g3, g4, g5⟩ := ih (r - 2 ^ D) (c + 2 ^ D) (by omega) (by omega) (by omega) (by rw [Nat.add_mod_right]; exact hc)
      have hidx : c / 2 ^ D * 2 ^ D = c := Nat.div_mul_cancel (Nat.dvd_of_mod_eq_zero hc)
      have hpop : pop 64 r = 1 + pop 64 (r - 2 ^ D) := by
        have := pop_top D (r - 2 ^ D) 64 (by omega) (by omega)
        rw [show 2 ^ D + (r - 2 ^ D) = r by omega] at this
        exact this
      refine ⟨(D, c / 2 ^ D) :: t, ⟨hidx, g1⟩, ⟨?_, g2⟩, by simp; omega, ?_, ?_⟩
      · intro m hm hf
        have : m ∈ t := List.mem_of_mem_head? (by rw [hm]; rfl)
        have := g4 m this
        have := hf.1
        omega
      · intro n hn
        rcases List.mem_cons.1 hn with rfl | hn
        · exact Nat.lt_succ_self _
        · have := g4 n hn; omega
      · intro acc k ha hk
        obtain ⟨k, rfl⟩ : ∃ m, k = m + 1 := ⟨k - 1, by omega⟩
        have hb : Lib.bitLen r = D + 1 := bitLen_of D r (by omega) h2 (by omega)
        have hf : bits_Len64.f (r : Int) = some ((D + 1 : Nat) : Int) := by
          unfold bits_Len64.f
          rw [if_pos (by omega), if_pos (by omega), Int.toNat_natCast, hb]
        have hD1 : IntKind.u64.wrap (IntKind.u64.wrap (((D + 1 : Nat) : Int)) - 1) = (D : Int) := by
          rw [u64_small _ (by omega), show ((D + 1 : Nat) : Int) - 1 = (D : Int) by omega, u64_small _ (by omega)]
        have hx : r ^^^ 2 ^ D = r - 2 ^ D := by
          have hh := xor_top D (r - 2 ^ D) 0 (by omega) hp
          rw [show 2 ^ D + (r - 2 ^ D) = r by omega, Nat.add_zero, Nat.xor_zero] at hh
          exact hh
        have hpD : 2 ^ D < 18446744073709551616 := by rw [← pow64]; exact pow_lt (by omega)
        have g5' := g5 (acc ++ [cn (D, c / 2 ^ D)]) k (by simp; omega) (by omega)
        simp only [compact_RangeNodes.l1]
        rw [if_neg (by omega), hf]
        simp only [Option.bind_some]
        rw [hD1, if_pos (by omega), shr_nat c D (by omega), one_shl' D (by omega)]
        unfold compact_NewNodeID.f
        simp only [Option.bind_some]
        rw [if_pos (by omega), xor_nat r (2 ^ D) (by omega) hpD, hx, add64 _ _ (by omega)]
        have hfin : acc ++ [(⟨(D : Int), ((c / 2 ^ D : Nat) : Int)⟩ : S107)] = acc ++ [cn (D, c / 2 ^ D)] := rfl
        rw [hfin, g5']
        simp
theorem ctz_of (u t : Nat) (ht : t < 64) (h : 2 ^ t * (2 * u + 1) < 18446744073709551616) : Lib.ctz 64 (2 ^ t * (2 * u + 1)) = t := by
  have hp := two_pow_pos t
  have h0 : 0 < 2 ^ t * (2 * u + 1) := Nat.mul_pos hp (by omega)
  obtain ⟨m, h1, h2⟩ := Lib.ctzFrom_spec 64 (2 ^ t * (2 * u + 1)) h0 (by rw [pow64]; exact h)
  unfold Lib.ctz
  rw [if_neg (by omega)]
  generalize Lib.ctzFrom 64 (2 ^ t * (2 * u + 1)) = x at *
  rw [Nat.mul_comm, Nat.mul_comm (2 ^ x)] at h1
  have := odd_le h1 (by omega)
  have := odd_le h1.symm (by omega)
  omega
theorem left_run (e mid r : Nat) (he : e < 18446744073709551616) (D : Nat) (hD : D < 64) (hm : mid + r = e) (hr : r < 2 ^ D) (hmid : mid % 2 ^ D = 0) (f : Nat) : ∀ (l c t : Nat), t + f = D → c + l = mid → l < 2 ^ D → l % 2 ^ t = 0 →
    ∃ T, Til e c T ∧ SF T ∧ T.length = pop 64 l + pop 64 r ∧ (∀ n ∈ T, n.1 < D) ∧ ∀ (acc : List S107) (k : Nat), acc.length ≤ 900 - f → f + D + 1 < k → compact_RangeNodes.l0 k acc (l : Int) (r : Int) (c : Int) = some (acc ++ T.map cn) := by
  induction f with
  | zero =>
    intro l c t h1 h2 h3 h4
    obtain rfl : t = D := h1
    rw [Nat.mod_eq_of_lt h3] at h4
    subst h4
    obtain ⟨T, g1, g2, g3, g4, g5⟩ := right_run e he t r c (by omega) (by omega) hr (by rw [show c = mid by omega]; exact hmid)
    refine ⟨T, g1, g2, by rw [pop_zero]; omega, g4, ?_⟩
    intro acc k ha hk
    obtain ⟨k, rfl⟩ : ∃ m, k = m + 1 := ⟨k - 1, by omega⟩
    simp only [compact_RangeNodes.l0]
    rw [if_pos (by rfl)]
    exact g5 acc k (by omega) (by omega)
  | succ f ih =>
    intro l c t h1 h2 h3 h4
    have hp := two_pow_pos t
    have e1 : 2 ^ (t + 1) = 2 ^ t * 2 := Nat.pow_succ ..
    obtain ⟨v, hv⟩ := Nat.dvd_of_mod_eq_zero h4
    by_cases ho : v % 2 = 0
    · obtain ⟨T, g1, g2, g3, g4, g5⟩ := ih l c (t + 1) (by omega) h2 h3 (by
        rw [hv, e1, show v = 2 * (v / 2) by omega, ← Nat.mul_assoc, Nat.mul_mod_right])
      exact ⟨T, g1, g2, g3, g4, fun acc k ha hk => g5 acc k (by omega) (by omega)⟩
    · obtain ⟨u, rfl⟩ : ∃ u, v = 2 * u + 1 := ⟨v / 2, by omega⟩
      have hge : 2 ^ t ≤ l := by rw [hv]; exact Nat.le_mul_of_pos_right _ (by omega)
      have hmul : 2 ^ t * (2 * u + 1) = 2 ^ (t + 1) * u + 2 ^ t := by rw [Nat.mul_add, e1, Nat.mul_assoc, Nat.mul_one]
      have htD : t < D := by omega
      obtain ⟨w, hw⟩ : 2 ^ (t + 1) ∣ mid := Nat.dvd_trans (Nat.pow_dvd_pow 2 (by omega)) (Nat.dvd_of_mod_eq_zero hmid)
      have hw2 : mid = 2 ^ t * (2 * w) := by rw [hw, e1, Nat.mul_assoc]
      have hcw : c + 2 ^ t * (2 * u + 1) = 2 ^ t * (2 * w) := by omega
      have huw : 2 * u + 1 ≤ 2 * w := Nat.le_of_mul_le_mul_left (by omega : 2 ^ t * (2 * u + 1) ≤ 2 ^ t * (2 * w)) hp
      have hce : c = 2 ^ t * (2 * w - (2 * u + 1)) := by rw [Nat.mul_sub]; omega
      have hci : c / 2 ^ t = 2 * w - (2 * u + 1) := by rw [hce, Nat.mul_div_cancel_left _ hp]
      obtain ⟨T, g1, g2, g3, g4, g5⟩ := ih (l - 2 ^ t) (c + 2 ^ t) (t + 1) (by omega) (by omega) (by omega) (by
        rw [hv, hmul, Nat.add_sub_cancel, Nat.mul_mod_right])
      have hpop : pop 64 l = 1 + pop 64 (l - 2 ^ t) := by
        have j1 := pop_join (63 - t) u (t + 1) (2 ^ t) (by omega)
        have j2 := pop_join (63 - t) u (t + 1) 0 (by omega)
        have j3 : pop (t + 1) (2 ^ t) = 1 + pop (t + 1) 0 := pop_top t 0 (t + 1) hp (by omega)
        rw [show t + 1 + (63 - t) = 64 by omega] at j1 j2
        have q1 : l = 2 ^ t + 2 ^ (t + 1) * u := by omega
        have q2 : l - 2 ^ t = 0 + 2 ^ (t + 1) * u := by omega
        rw [q2, j2, q1, j1, j3]
        omega
      refine ⟨(t, c / 2 ^ t) :: T, ⟨?_, g1⟩, ⟨?_, g2⟩, by simp; omega, ?_, ?_⟩
      · show c / 2 ^ t * 2 ^ t = c
        rw [hci, hce, Nat.mul_comm]
      · intro m hm hf
        have := hf.2
        have : c / 2 ^ t % 2 = 0 := this
        rw [hci] at this
        omega
      · intro n hn
        rcases List.mem_cons.1 hn with rfl | hn
        · exact htD
        · exact g4 n hn
      · intro acc k ha hk
        obtain ⟨k, rfl⟩ : ∃ m, k = m + 1 := ⟨k - 1, by omega⟩
        have hl64 : l < 18446744073709551616 := by omega
        have hf : bits_TrailingZeros64.f (l : Int) = some (t : Int) := by
          unfold bits_TrailingZeros64.f
          rw [if_pos (by omega), if_pos (by omega), Int.toNat_natCast, hv, ctz_of u t (by omega) (by rw [← hv]; exact hl64)]
        have hx : l ^^^ 2 ^ t = l - 2 ^ t := by
          rw [hv, hmul, Nat.add_sub_cancel]
          have hh : 2 ^ (t + 1) * u + 2 ^ t = 2 ^ (t + 1) * u ||| 2 ^ t := (Nat.two_pow_add_eq_or_of_lt (by omega) u)
          rw [hh]
          have : 2 ^ (t + 1) * u ||| 2 ^ t = 2 ^ (t + 1) * u ^^^ 2 ^ t := by
            apply Nat.eq_of_testBit_eq
            intro i
            rw [Nat.testBit_or, Nat.testBit_xor, Nat.testBit_two_pow]
            by_cases hi : t = i
            · subst hi
              rw [Nat.testBit_two_pow_mul]
              simp
            · simp [hi]
          rw [this, Nat.xor_assoc, Nat.xor_self, Nat.xor_zero]
        have hpt : 2 ^ t < 18446744073709551616 := by rw [← pow64]; exact pow_lt (by omega)
        have g5' := g5 (acc ++ [cn (t, c / 2 ^ t)]) k (by simp; omega) (by omega)
        simp only [compact_RangeNodes.l0]
        rw [if_neg (by omega), hf]
        simp only [Option.bind_some]
        rw [u64_small t (by omega), if_pos (by omega), shr_nat c t (by omega), one_shl' t (by omega)]
        unfold compact_NewNodeID.f
        simp only [Option.bind_some]
        rw [if_pos (by omega), xor_nat l (2 ^ t) hl64 hpt, hx, add64 _ _ (by omega)]
        have hfin : acc ++ [(⟨(t : Int), ((c / 2 ^ t : Nat) : Int)⟩ : S107)] = acc ++ [cn (t, c / 2 ^ t)] := rfl
        rw [hfin, g5']
        simp
theorem range_nodes (b e : Nat) (h : b ≤ e) (h64 : e < 18446744073709551616) : ∃ t, Row b e t ∧ (∃ l r : Nat, compact_Decompose.f (b : Int) (e : Int) = some ((l : Int), (r : Int)) ∧ l + r ≤ e ∧ t.length = pop 64 l + pop 64 r) ∧ ∀ (acc : List S107) (k : Nat), acc.length ≤ 800 → 300 < k → compact_RangeNodes.f k (b : Int) (e : Int) acc = some (acc ++ t.map cn) := by
  obtain ⟨l, r, hd, D⟩ := decompose b e h h64
  have hsum := D.sum
  have hpl := pop_le 64 l
  have hpr := pop_le 64 r
  have hk : ∀ (acc : List S107) (k : Nat), compact_RangeNodes.f k (b : Int) (e : Int) acc = compact_RangeNodes.l0 k acc (l : Int) (r : Int) (b : Int) := by
    intro acc k
    unfold compact_RangeNodes.f
    rw [hd]
    rfl
  rcases D with ⟨rfl, rfl, rfl⟩ | ⟨hb, d, q, x, y, hd', hx, hy, hb', he', rfl, rfl⟩
  · obtain ⟨t, g1, g2, g3, g4, g5⟩ := right_run r h64 64 r 0 (by omega) (by omega) (by rw [pow64]; exact h64) (by simp)
    refine ⟨t, ⟨g1, g2, by omega, g4⟩, ⟨0, r, hd, by omega, by rw [pop_zero]; omega⟩, fun acc k ha hkk => ?_⟩
    rw [hk]
    obtain ⟨k, rfl⟩ : ∃ m, k = m + 1 := ⟨k - 1, by omega⟩
    simp only [compact_RangeNodes.l0]
    rw [if_pos (by rfl)]
    exact g5 acc k (by omega) (by omega)
  · have e1 : 2 ^ (d + 1) = 2 ^ d * 2 := Nat.pow_succ ..
    obtain ⟨t, g1, g2, g3, g4, g5⟩ := left_run e (2 ^ (d + 1) * q + 2 ^ d) _ h64 d hd' he'.symm hy (by rw [e1, Nat.mul_assoc, Nat.mul_add_mod, Nat.mod_self]) d (2 ^ d - 1 - x) b 0 (by omega) (by omega) (by omega) (by rw [Nat.pow_zero, Nat.mod_one])
    refine ⟨t, ⟨g1, g2, by omega, fun n hn => by have := g4 n hn; omega⟩, ⟨_, _, hd, by omega, g3⟩, fun acc k ha hkk => ?_⟩
    rw [hk]
    exact g5 acc k (by omega) (by omega)
theorem from_run (suf : List Nd) : ∀ (pre : List Nd) (acc : List S70) (k : Nat), (pre ++ suf).length ≤ 1000 → acc.length + suf.length ≤ 9000 → suf.length < k →
    impl_fromNodes.l0 k acc ((pre ++ suf).map cn) (((pre ++ suf).map cn).length : Int) (pre.length : Int) = some (acc ++ suf.map sn) := by
  induction suf with
  | nil =>
    intro pre acc k h1 _ hk
    obtain ⟨k, rfl⟩ : ∃ m, k = m + 1 := ⟨k - 1, by omega⟩
    simp only [impl_fromNodes.l0]
    rw [if_neg (by simp)]
    simp
  | cons n suf ih =>
    intro pre acc k h1 h2 hk
    obtain ⟨k, rfl⟩ : ∃ m, k = m + 1 := ⟨k - 1, by omega⟩
    have hlt : (pre.length : Int) < (((pre ++ n :: suf).map cn).length : Int) := by simp; omega
    have hrd : rd_T107 ((pre ++ n :: suf).map cn) (pre.length : Int) = cn n := by simp [rd_T107]
    have ew : wrap64 ((pre.length : Int) + 1) = ((pre ++ [n]).length : Int) := by simp at h1 ⊢; rw [wrap64_id] <;> omega
    have ih' := ih (pre ++ [n]) (acc ++ [sn n]) k (by simp at h1 ⊢; omega) (by simp at h2 ⊢; omega) (by simp at hk; omega)
    rw [List.append_assoc, List.singleton_append] at ih'
    simp only [impl_fromNodes.l0]
    rw [if_pos hlt, if_pos (by omega), if_pos hlt, hrd, ew]
    unfold impl_fromNode.f
    simp only [Option.bind_some]
    rw [if_pos (by simp at h2; omega)]
    have hsn : acc ++ [(⟨(cn n).f0, (cn n).f1⟩ : S70)] = acc ++ [sn n] := rfl
    rw [hsn, ih']
    simp
end Go.Proofs.YtijldedhcjkhiaaDoor.Z
