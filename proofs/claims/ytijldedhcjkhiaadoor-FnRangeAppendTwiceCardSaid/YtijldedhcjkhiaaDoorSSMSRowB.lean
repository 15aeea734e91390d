import Derived.Test.YtijldedhcjkhiaaDoorSSMSTil
import Derived.Test.YtijldedhcjkhiaaDoorSSMSPath
import Derived.Test.YtijldedhcjkhiaaDoorSSMSDec
import Derived.Test.YtijldedhcjkhiaaDoorSSMSOnes
import Derived.Test.YtijldedhcjkhiaaDoorSSS7
namespace Go.Proofs.YtijldedhcjkhiaaDoor.S
open Go.RowKit Go.Proofs.YtijldedhcjkhiaaDoorW.PrintWords Go.Proofs.YtijldedhcjkhiaaDoorW.PrintLast Go.Proofs.YtijldedhcjkhiaaDoorW.PrintMore Go.Proofs.YtijldedhcjkhiaaDoorM
set_option linter.unusedVariables false
def sn (n : Nd) : S70 := ⟨(n.1 : Int), (n.2 : Int)⟩
theorem add64 (a b : Nat) (h : a + b < 18446744073709551616) : IntKind.u64.wrap ((a : Int) + (b : Int)) = ((a + b : Nat) : Int) := by
  rw [show (a : Int) + (b : Int) = ((a + b : Nat) : Int) by omega, u64_small _ h]
theorem sub64 (a b : Nat) (h : b ≤ a) (ha : a < 18446744073709551616) : IntKind.u64.wrap ((a : Int) - (b : Int)) = ((a - b : Nat) : Int) := by
  rw [show (a : Int) - (b : Int) = ((a - b : Nat) : Int) by omega, u64_small _ (by omega)]
theorem one_shl' (i : Nat) (hi : i < 64) : shl .u64 1 (i : Int) = ((2 ^ i : Nat) : Int) := by
  have h := shl_nat 1 i (by omega)
  have hp := pow_lt hi
  rw [pow64] at hp
  rw [Nat.one_mul, Nat.mod_eq_of_lt hp] at h
  exact h
structure Row (b e : Nat) (t : List Nd) : Prop where
  til : Til e b t
  sf : SF t
  len : t.length ≤ 128
  lev : ∀ n ∈ t, n.1 < 64
theorem right_run (e : Nat) (he : e < 18446744073709551616) (D : Nat) : ∀ (r c : Nat), D ≤ 64 → c + r = e → r < 2 ^ D → c % 2 ^ D = 0 →
    ∃ t, Til e c t ∧ SF t ∧ t.length = pop 64 r ∧ (∀ n ∈ t, n.1 < D) := by
  induction D with
  | zero =>
    intro r c _ h1 h2 _
    exact ⟨[], by show c = e; rw [Nat.pow_zero] at h2; omega, trivial, by rw [Nat.pow_zero] at h2; rw [show r = 0 by omega, pop_zero]; rfl, by simp⟩
  | succ D ih =>
    intro r c hD h1 h2 h3
    have hp := two_pow_pos D
    have e1 : 2 ^ (D + 1) = 2 ^ D * 2 := Nat.pow_succ ..
    have hc : c % 2 ^ D = 0 := Nat.mod_eq_zero_of_dvd (Nat.dvd_trans (Nat.pow_dvd_pow 2 (by omega)) (Nat.dvd_of_mod_eq_zero h3))
    by_cases hr : r < 2 ^ D
    · obtain ⟨t, g1, g2, g3, g4⟩ := ih r c (by omega) h1 hr hc
      exact ⟨t, g1, g2, g3, fun n hn => by have := g4 n hn; omega⟩
    · obtain ⟨t, g1, g2, g3, g4⟩ := ih (r - 2 ^ D) (c + 2 ^ D) (by omega) (by omega) (by omega) (by rw [Nat.add_mod_right]; exact hc)
      have hidx : c / 2 ^ D * 2 ^ D = c := Nat.div_mul_cancel (Nat.dvd_of_mod_eq_zero hc)
      have hpop : pop 64 r = 1 + pop 64 (r - 2 ^ D) := by
        have := pop_top D (r - 2 ^ D) 64 (by omega) (by omega)
        rw [show 2 ^ D + (r - 2 ^ D) = r by omega] at this
        exact this
      refine ⟨(D, c / 2 ^ D) :: t, ⟨hidx, g1⟩, ⟨?_, g2⟩, by simp; omega, ?_⟩
      · intro m hm hf
        have : m ∈ t := List.mem_of_mem_head? (by rw [hm]; rfl)
        have := g4 m this
        have := hf.1
        omega
      · intro n hn
        rcases List.mem_cons.1 hn with rfl | hn
        · exact Nat.lt_succ_self _
        · have := g4 n hn; omega
theorem ctz_of (u t : Nat) (ht : t < 64) (h : 2 ^ t * (2 * u + 1) < 18446744073709551616) : Lib.ctz 64 (2 ^ t * (2 * u + 1)) = t := by
  have hp := two_pow_pos t
  have h0 : 0 < 2 ^ t * (2 * u + 1) := Nat.mul_pos hp (by omega)
  obtain ⟨m, h1, h2⟩ := Lib.ctzFrom_spec 64 (2 ^ t * (2 * u + 1)) h0 (by rw [pow64]; exact h)
  unfold Lib.ctz
  rw [if_neg (by omega)]
  generalize Lib.ctzFrom 64 (2 ^ t * (2 * u + 1)) = x at *
  rw [Nat.mul_comm, Nat.mul_comm (2 ^ x)] at h1
  have := odd_le h1 (by omega)
  have := odd_le h1.symm (by omega)
  omega
theorem left_run (e mid r : Nat) (he : e < 18446744073709551616) (D : Nat) (hD : D < 64) (hm : mid + r = e) (hr : r < 2 ^ D) (hmid : mid % 2 ^ D = 0) (f : Nat) : ∀ (l c t : Nat), t + f = D → c + l = mid → l < 2 ^ D → l % 2 ^ t = 0 →
    ∃ T, Til e c T ∧ SF T ∧ T.length = pop 64 l + pop 64 r ∧ (∀ n ∈ T, n.1 < D) := by
  induction f with
  | zero =>
    intro l c t h1 h2 h3 h4
    obtain rfl : t = D := h1
    rw [Nat.mod_eq_of_lt h3] at h4
    subst h4
    obtain ⟨T, g1, g2, g3, g4⟩ := right_run e he t r c (by omega) (by omega) hr (by rw [show c = mid by omega]; exact hmid)
    exact ⟨T, g1, g2, by rw [pop_zero]; omega, g4⟩
  | succ f ih =>
    intro l c t h1 h2 h3 h4
    have hp := two_pow_pos t
    have e1 : 2 ^ (t + 1) = 2 ^ t * 2 := Nat.pow_succ ..
    obtain ⟨v, hv⟩ := Nat.dvd_of_mod_eq_zero h4
    by_cases ho : v % 2 = 0
    · obtain ⟨T, g1, g2, g3, g4⟩ := ih l c (t + 1) (by omega) h2 h3 (by
        rw [hv, e1, show v = 2 * (v / 2) by omega, ← Nat.mul_assoc, Nat.mul_mod_right])
      exact ⟨T, g1, g2, g3, g4⟩
    · obtain ⟨u, rfl⟩ : ∃ u, v = 2 * u + 1 := ⟨v / 2, by omega⟩
      have hge : 2 ^ t ≤ l := by rw [hv]; exact Nat.le_mul_of_pos_right _ (by omega)
      have hmul : 2 ^ t * (2 * u + 1) = 2 ^ (t + 1) * u + 2 ^ t := by rw [Nat.mul_add, e1, Nat.mul_assoc, Nat.mul_one]
      have htD : t < D := by omega
      obtain ⟨w, hw⟩ : 2 ^ (t + 1) ∣ mid := Nat.dvd_trans (Nat.pow_dvd_pow 2 (by omega)) (Nat.dvd_of_mod_eq_zero hmid)
      have hw2 : mid = 2 ^ t * (2 * w) := by rw [hw, e1, Nat.mul_assoc]
      have hcw : c + 2 ^ t * (2 * u + 1) = 2 ^ t * (2 * w) := by omega
      have huw : 2 * u + 1 ≤ 2 * w := Nat.le_of_mul_le_mul_left (by omega : 2 ^ t * (2 * u + 1) ≤ 2 ^ t * (2 * w)) hp
      have hce : c = 2 ^ t * (2 * w - (2 * u + 1)) := by rw [Nat.mul_sub]; omega
      have hci : c / 2 ^ t = 2 * w - (2 * u + 1) := by rw [hce, Nat.mul_div_cancel_left _ hp]
      obtain ⟨T, g1, g2, g3, g4⟩ := ih (l - 2 ^ t) (c + 2 ^ t) (t + 1) (by omega) (by omega) (by omega) (by
        rw [hv, hmul, Nat.add_sub_cancel, Nat.mul_mod_right])
      have hpop : pop 64 l = 1 + pop 64 (l - 2 ^ t) := by
        have j1 := pop_join (63 - t) u (t + 1) (2 ^ t) (by omega)
        have j2 := pop_join (63 - t) u (t + 1) 0 (by omega)
        have j3 : pop (t + 1) (2 ^ t) = 1 + pop (t + 1) 0 := pop_top t 0 (t + 1) hp (by omega)
        rw [show t + 1 + (63 - t) = 64 by omega] at j1 j2
        have q1 : l = 2 ^ t + 2 ^ (t + 1) * u := by omega
        have q2 : l - 2 ^ t = 0 + 2 ^ (t + 1) * u := by omega
        rw [q2, j2, q1, j1, j3]
        omega
      refine ⟨(t, c / 2 ^ t) :: T, ⟨?_, g1⟩, ⟨?_, g2⟩, by simp; omega, ?_⟩
      · show c / 2 ^ t * 2 ^ t = c
        rw [hci, hce, Nat.mul_comm]
      · intro m hm hf
        have := hf.2
        have : c / 2 ^ t % 2 = 0 := this
        rw [hci] at this
        omega
      · intro n hn
        rcases List.mem_cons.1 hn with rfl | hn
        · exact htD
        · exact g4 n hn
theorem range_row (b e : Nat) (h : b ≤ e) (h64 : e < 18446744073709551616) : ∃ t, Row b e t ∧ ∃ l r : Nat, compact_Decompose.f (b : Int) (e : Int) = some ((l : Int), (r : Int)) ∧ l + r ≤ e ∧ t.length = pop 64 l + pop 64 r := by
  obtain ⟨l, r, hd, D⟩ := decompose b e h h64
  have hsum := D.sum
  have hpl := pop_le 64 l
  have hpr := pop_le 64 r
  rcases D with ⟨rfl, rfl, rfl⟩ | ⟨hb, d, q, x, y, hd', hx, hy, hb', he', rfl, rfl⟩
  · obtain ⟨t, g1, g2, g3, g4⟩ := right_run r h64 64 r 0 (by omega) (by omega) (by rw [pow64]; exact h64) (by simp)
    exact ⟨t, ⟨g1, g2, by omega, g4⟩, ⟨0, r, hd, by omega, by rw [pop_zero]; omega⟩⟩
  · have e1 : 2 ^ (d + 1) = 2 ^ d * 2 := Nat.pow_succ ..
    obtain ⟨t, g1, g2, g3, g4⟩ := left_run e (2 ^ (d + 1) * q + 2 ^ d) _ h64 d hd' he'.symm hy (by rw [e1, Nat.mul_assoc, Nat.mul_add_mod, Nat.mod_self]) d (2 ^ d - 1 - x) b 0 (by omega) (by omega) (by omega) (by rw [Nat.pow_zero, Nat.mod_one])
    exact ⟨t, ⟨g1, g2, by omega, fun n hn => by have := g4 n hn; omega⟩, ⟨_, _, hd, by omega, g3⟩⟩
theorem pops (l r t e : Nat) (h64 : e < 18446744073709551616) (hlr : l + r ≤ e) (hlen : t = pop 64 l + pop 64 r) : ∃ x y : Nat, bits_OnesCount64.f (l : Int) = some (x : Int) ∧ bits_OnesCount64.f (r : Int) = some (y : Int) ∧ x ≤ 64 ∧ y ≤ 64 ∧ t = x + y :=
  ⟨pop 64 l, pop 64 r, onesCount l (by omega), onesCount r (by omega), pop_le 64 l, pop_le 64 r, hlen⟩
theorem range_size (b e : Int) (l r x y : Int) (hd : compact_Decompose.f b e = some (l, r)) (o1 : bits_OnesCount64.f l = some x) (o2 : bits_OnesCount64.f r = some y) : compact_RangeSize.f b e = some (wrap64 (x + y)) := by
  unfold compact_RangeSize.f
  rw [hd]
  rw [Option.bind_some]
  dsimp only
  rw [o1, Option.bind_some, o2, Option.bind_some]
theorem Row.same {b e : Nat} {s t : List Nd} (h : Row b e s) (h' : Row b e t) : s = t := uniq h.til h.sf h'.til h'.sf
theorem size_of {b e : Nat} {t : List Nd} (h : b ≤ e) (h64 : e < 18446744073709551616) (R : Row b e t) : compact_RangeSize.f (b : Int) (e : Int) = some (t.length : Int) := by
  obtain ⟨t', R', l, r, hd, hlr, hlen⟩ := range_row b e h h64
  obtain rfl := R'.same R
  obtain ⟨x, y, o1, o2, hx, hy, hl⟩ := pops l r _ e h64 hlr hlen
  rw [range_size _ _ _ _ _ _ hd o1 o2, wrap64_id _ (by omega) (by omega), hl]
  rfl
end Go.Proofs.YtijldedhcjkhiaaDoor.S
