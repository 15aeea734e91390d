import Derived.Test.YtpeikjnkbjabpaaDoorSVMVDetE
import Derived.Test.YtpeikjnkbjabpaaDoorSVV5
namespace Go.Proofs.YtpeikjnkbjabpaaDoor.V
open Go.RowKit
set_option linter.unusedVariables false
def Cmb (n c : Nat) (M : Nat → Nat → E) (v : Nat → E) : Prop := ∃ a : Nat → E, ∀ j, j < c → v j = sm n (fun k => a k * M k j)
def Sub' (n c : Nat) (M M' : Nat → Nat → E) : Prop := ∀ i, i < n → Cmb n c M (M' i)
theorem Cmb.row {n c : Nat} (M : Nat → Nat → E) {i : Nat} (hi : i < n) : Cmb n c M (M i) :=
  ⟨fun k => if k = i then 1 else 0, fun j _ => by
    show M i j = sm n (fun k => (if k = i then 1 else 0) * M k j)
    rw [sm_single (p := i) hi fun k _ hk => by rw [if_neg hk, E.zero_mul], if_pos rfl, E.one_mul]⟩
theorem Cmb.add {n c : Nat} {M : Nat → Nat → E} {u v : Nat → E} (hu : Cmb n c M u) (hv : Cmb n c M v) : Cmb n c M (fun j => u j + v j) := by
  obtain ⟨a, ha⟩ := hu
  obtain ⟨b, hb⟩ := hv
  refine ⟨fun k => a k + b k, fun j hj => ?_⟩
  show u j + v j = sm n (fun k => (a k + b k) * M k j)
  rw [ha j hj, hb j hj, ← sm_add]
  exact sm_congr fun k _ => (E.add_mul _ _ _).symm
theorem Cmb.smul {n c : Nat} {M : Nat → Nat → E} {u : Nat → E} (s : E) (hu : Cmb n c M u) : Cmb n c M (fun j => s * u j) := by
  obtain ⟨a, ha⟩ := hu
  refine ⟨fun k => s * a k, fun j hj => ?_⟩
  show s * u j = sm n (fun k => s * a k * M k j)
  rw [ha j hj, sm_mul]
  exact sm_congr fun k _ => (E.mul_assoc _ _ _).symm
theorem Cmb.ext {n c : Nat} {M : Nat → Nat → E} {u v : Nat → E} (hu : Cmb n c M u) (h : ∀ j, j < c → v j = u j) : Cmb n c M v := by
  obtain ⟨a, ha⟩ := hu
  exact ⟨a, fun j hj => (h j hj).trans (ha j hj)⟩
theorem Sub'.mat {n c : Nat} {M M' : Nat → Nat → E} (h : Sub' n c M M') : ∃ A : Nat → Nat → E, ∀ i, i < n → ∀ j, j < c → M' i j = sm n (fun k => A i k * M k j) :=
  ⟨fun i => if hi : i < n then (h i hi).choose else fun _ => 0, fun i hi j hj => by dsimp only; rw [dif_pos hi]; exact (h i hi).choose_spec j hj⟩
theorem Cmb.trans {n c : Nat} {M M' : Nat → Nat → E} {v : Nat → E} (h : Sub' n c M M') (hv : Cmb n c M' v) : Cmb n c M v := by
  obtain ⟨A, hA⟩ := h.mat
  obtain ⟨a, ha⟩ := hv
  refine ⟨fun k => sm n (fun i => a i * A i k), fun j hj => ?_⟩
  rw [ha j hj, sm_congr (g := fun i => sm n (fun k => a i * A i k * M k j)) fun i hi => by
    rw [hA i hi j hj, sm_mul]
    exact sm_congr fun k _ => (E.mul_assoc _ _ _).symm]
  rw [sm_swap]
  exact sm_congr fun k _ => (sm_mul' _ _ _).symm
theorem Sub'.trans {n c : Nat} {M M' M'' : Nat → Nat → E} (h : Sub' n c M M') (h' : Sub' n c M' M'') : Sub' n c M M'' := fun i hi => Cmb.trans h (h' i hi)
def Eqv (n c : Nat) (M M' : Nat → Nat → E) : Prop := Sub' n c M M' ∧ Sub' n c M' M
theorem Eqv.refl (n c : Nat) (M : Nat → Nat → E) : Eqv n c M M := ⟨fun i hi => Cmb.row M hi, fun i hi => Cmb.row M hi⟩
theorem Eqv.trans {n c : Nat} {M M' M'' : Nat → Nat → E} (h : Eqv n c M M') (h' : Eqv n c M' M'') : Eqv n c M M'' := ⟨h.1.trans h'.1, h'.2.trans h.2⟩
theorem eqv_row (n c i r : Nat) (hi : i < n) (hr : r < n) (hne : i ≠ r) (s : E) (M : Nat → Nat → E) : Eqv n c M (rwv M i (fun j => M i j + s * M r j)) := by
  refine ⟨fun a ha => ?_, fun a ha => ?_⟩
  · by_cases e : a = i
    · subst e
      exact ((Cmb.row M ha).add ((Cmb.row M hr).smul s)).ext fun j _ => rw_at _ _ _ _
    · exact (Cmb.row M ha).ext fun j _ => rw_off _ _ _ _ _ e
  · by_cases e : a = i
    · subst e
      refine ((Cmb.row (rwv M a (fun j => M a j + s * M r j)) ha).add ((Cmb.row (rwv M a (fun j => M a j + s * M r j)) hr).smul s)).ext fun j _ => ?_
      rw [rw_at, rw_off _ _ _ _ _ (Ne.symm hne), E.add_cancel]
    · exact (Cmb.row (rwv M i (fun j => M i j + s * M r j)) ha).ext fun j _ => (rw_off _ _ _ _ _ e).symm
theorem eqv_scl (n c r : Nat) (hr : r < n) (s : E) (hs : s ≠ 0) (M : Nat → Nat → E) : Eqv n c M (rwv M r (fun j => s * M r j)) := by
  refine ⟨fun a ha => ?_, fun a ha => ?_⟩
  · by_cases e : a = r
    · subst e
      exact ((Cmb.row M ha).smul s).ext fun j _ => rw_at _ _ _ _
    · exact (Cmb.row M ha).ext fun j _ => rw_off _ _ _ _ _ e
  · by_cases e : a = r
    · subst e
      refine ((Cmb.row (rwv M a (fun j => s * M a j)) ha).smul s.inv).ext fun j _ => ?_
      rw [rw_at, ← E.mul_assoc, E.mul_comm s.inv s, E.mul_inv s hs, E.one_mul]
    · exact (Cmb.row (rwv M r (fun j => s * M r j)) ha).ext fun j _ => (rw_off _ _ _ _ _ e).symm
theorem swp_rows (n c p q : Nat) (hp : p < n) (hq : q < n) (M : Nat → Nat → E) : Sub' n c M (swpE M p q) := by
  intro a ha
  by_cases e1 : a = p
  · exact (Cmb.row M hq).ext fun j _ => by unfold swpE; rw [if_pos e1]
  · by_cases e2 : a = q
    · exact (Cmb.row M hp).ext fun j _ => by unfold swpE; rw [if_neg e1, if_pos e2]
    · exact (Cmb.row M ha).ext fun j _ => by unfold swpE; rw [if_neg e1, if_neg e2]
theorem swp_twice (p q : Nat) (M : Nat → Nat → E) : swpE (swpE M p q) p q = M := by
  funext i j
  unfold swpE
  by_cases e1 : i = p
  · rw [if_pos e1]
    by_cases e2 : q = p
    · rw [if_pos e2, e1, e2]
    · rw [if_neg e2, if_pos rfl, e1]
  · rw [if_neg e1]
    by_cases e2 : i = q
    · rw [if_pos e2, if_pos rfl, e2]
    · rw [if_neg e2, if_neg e1, if_neg e2]
theorem eqv_swp (n c p q : Nat) (hp : p < n) (hq : q < n) (M : Nat → Nat → E) : Eqv n c M (swpE M p q) :=
  ⟨swp_rows n c p q hp hq M, by have h := swp_rows n c p q hp hq (swpE M p q); rw [swp_twice] at h; exact h⟩
def toE (M : Nat → Nat → Nat) : Nat → Nat → E := fun i j => el (M i j)
def Byt (M : Nat → Nat → Nat) : Prop := ∀ i j, M i j < 256
theorem to_add {M : Nat → Nat → Nat} (h : Byt M) (i r s : Nat) (hs : s < 256) : toE (addR M i r s) = rwv (toE M) i (fun j => toE M i j + el s * toE M r j) := by
  funext a j
  unfold toE addR rwv
  by_cases e : a = i
  · simp only [if_pos e]
    rw [el_xor (h _ _) (gm_lt _ _), el_mul hs (h _ _)]
  · simp only [if_neg e]
theorem to_scl {M : Nat → Nat → Nat} (h : Byt M) (r s : Nat) (hs : s < 256) : toE (sclR M r s) = rwv (toE M) r (fun j => el s * toE M r j) := by
  funext a j
  unfold toE sclR rwv
  by_cases e : a = r
  · simp only [if_pos e]
    rw [el_mul (h _ _) hs, E.mul_comm]
  · simp only [if_neg e]
theorem to_swp (M : Nat → Nat → Nat) (p q : Nat) : toE (swpR M p q) = swpE (toE M) p q := by
  funext a j
  unfold toE swpR swpE
  by_cases e : a = p
  · simp only [if_pos e]
  · simp only [if_neg e]
    by_cases e2 : a = q
    · simp only [if_pos e2]
    · simp only [if_neg e2]
structure Good (n c : Nat) (M0 M : Nat → Nat → Nat) : Prop where mk ::
  byt : Byt M
  eqv : Eqv n c (toE M0) (toE M)
  det0 : det n (toE M0) = 0 ↔ det n (toE M) = 0
theorem Good.refl {n c : Nat} {M : Nat → Nat → Nat} (h : Byt M) : Good n c M M := ⟨h, Eqv.refl _ _ _, Iff.rfl⟩
theorem Good.add {n c : Nat} {M0 M : Nat → Nat → Nat} (h : Good n c M0 M) (i r s : Nat) (hi : i < n) (hr : r < n) (hne : i ≠ r) (hs : s < 256) : Good n c M0 (addR M i r s) := by
  refine ⟨fun a b => ?_, ?_, ?_⟩
  · unfold addR
    split
    · exact xor8_lt (h.byt _ _) (gm_lt _ _)
    · exact h.byt _ _
  · rw [to_add h.byt i r s hs]
    exact h.eqv.trans (eqv_row n c i r hi hr hne _ _)
  · rw [to_add h.byt i r s hs, det_row n i r hi hr hne]
    exact h.det0
theorem Good.scl {n c : Nat} {M0 M : Nat → Nat → Nat} (h : Good n c M0 M) (r s : Nat) (hr : r < n) (hs : s < 256) (h0 : s ≠ 0) : Good n c M0 (sclR M r s) := by
  have he : el s ≠ 0 := fun e => h0 ((el_eq0 hs).1 e)
  refine ⟨fun a b => ?_, ?_, ?_⟩
  · unfold sclR
    split
    · exact gm_lt _ _
    · exact h.byt _ _
  · rw [to_scl h.byt r s hs]
    exact h.eqv.trans (eqv_scl n c r hr _ he _)
  · rw [to_scl h.byt r s hs, det_scl n r hr]
    refine h.det0.trans ⟨fun e => by rw [e, E.mul_zero], fun e => ?_⟩
    rcases E.mul_eq0 e with e | e
    · exact absurd e he
    · exact e
theorem Good.swp {n c : Nat} {M0 M : Nat → Nat → Nat} (h : Good n c M0 M) (p q : Nat) (hp : p < n) (hq : q < n) : Good n c M0 (swpR M p q) := by
  refine ⟨fun a b => ?_, ?_, ?_⟩
  · unfold swpR
    split
    · exact h.byt _ _
    · split
      · exact h.byt _ _
      · exact h.byt _ _
  · rw [to_swp]
    exact h.eqv.trans (eqv_swp n c p q hp hq _)
  · rw [to_swp, det_swp n p q hp hq]
    exact h.det0
def TriN (n : Nat) (M : Nat → Nat → Nat) (r : Nat) : Prop := ∀ k, k < r → M k k = 1 ∧ ∀ i, k < i → i < n → M i k = 0
theorem TriN.to {n r : Nat} {M : Nat → Nat → Nat} (h : TriN n M r) : Tri n (toE M) r := fun k hk =>
  ⟨by unfold toE; rw [(h k hk).1]; rfl, fun i h1 h2 => by unfold toE; rw [(h k hk).2 i h1 h2]; rfl⟩
theorem pv_is (M : Nat → Nat → Nat) (r : Nat) : ∀ d k p, pvR M r k d = some p → k ≤ p ∧ p < k + d ∧ M p r ≠ 0 := by
  intro d
  induction d with
  | zero => intro k p h; cases h
  | succ d ih =>
    intro k p h
    have h' : (if M k r = 0 then pvR M r (k + 1) d else some k) = some p := h
    by_cases h0 : M k r = 0
    · rw [if_pos h0] at h'
      have := ih (k + 1) p h'
      exact ⟨by omega, by omega, this.2.2⟩
    · rw [if_neg h0] at h'
      obtain rfl := Option.some.inj h'
      exact ⟨Nat.le_refl _, by omega, h0⟩
theorem pv_not (M : Nat → Nat → Nat) (r : Nat) : ∀ d k, pvR M r k d = none → ∀ i, k ≤ i → i < k + d → M i r = 0 := by
  intro d
  induction d with
  | zero => intro k _ i h1 h2; omega
  | succ d ih =>
    intro k h i h1 h2
    have h' : (if M k r = 0 then pvR M r (k + 1) d else some k) = none := h
    by_cases h0 : M k r = 0
    · rw [if_pos h0] at h'
      by_cases e : i = k
      · rw [e]; exact h0
      · exact ih (k + 1) h' i (by omega) (by omega)
    · rw [if_neg h0] at h'; cases h'
theorem tri_swp {n r p : Nat} {M : Nat → Nat → Nat} (h : TriN n M r) (hr : r < n) (h1 : r ≤ p) (h2 : p < n) : TriN n (swpR M r p) r := by
  intro k hk
  unfold swpR
  refine ⟨by rw [if_neg (by omega), if_neg (by omega)]; exact (h k hk).1, fun i h3 h4 => ?_⟩
  split
  · exact (h k hk).2 p (by omega) h2
  · split
    · exact (h k hk).2 r hk hr
    · exact (h k hk).2 i h3 h4
theorem ginv_lt (a : Nat) : ginv a < 256 := gpow_all_lt _
theorem ginv_ne (a : Nat) : ginv a ≠ 0 := gpow_ne0 _
theorem gm_ginv (a : Nat) (h : a < 256) (h0 : a ≠ 0) : gmul a (ginv a) = 1 := by
  have := E.mul_inv ⟨a, h⟩ (fun e => h0 (congrArg E.n e))
  exact congrArg E.n this
theorem one_step {n c r : Nat} {M0 M : Nat → Nat → Nat} (h : Good n c M0 M) (ht : TriN n M r) (hr : r < n) (h0 : M r r ≠ 0) : Good n c M0 (oneR M r) ∧ TriN n (oneR M r) r ∧ oneR M r r r = 1 := by
  unfold oneR
  by_cases h1 : M r r = 1
  · rw [if_pos h1]; exact ⟨h, ht, h1⟩
  · rw [if_neg h1]
    refine ⟨h.scl r _ hr (ginv_lt _) (ginv_ne _), fun k hk => ?_, ?_⟩
    · unfold sclR
      refine ⟨by rw [if_neg (by omega)]; exact (ht k hk).1, fun i h3 h4 => ?_⟩
      split
      · rw [(ht k hk).2 r hk hr, zero_gm]
      · exact (ht k hk).2 i h3 h4
    · unfold sclR
      rw [if_pos rfl, gm_ginv _ (h.byt _ _) h0]
theorem add_zero_col {n r i : Nat} {M : Nat → Nat → Nat} (s j : Nat) (h : M r j = 0) (i' : Nat) : addR M i r s i' j = M i' j := by
  unfold addR
  by_cases e : i' = i
  · rw [if_pos e, h, gm_zero, Nat.xor_zero, e]
  · rw [if_neg e]
theorem dn_step {n c r : Nat} {M0 M : Nat → Nat → Nat} (h : Good n c M0 M) (ht : TriN n M r) (hr : r < n) (h1 : M r r = 1) : ∀ d, r + 1 + d ≤ n →
    Good n c M0 (dnR M r d) ∧ TriN n (dnR M r d) r ∧ dnR M r d r r = 1 ∧ ∀ i, r + 1 ≤ i → i < r + 1 + d → dnR M r d i r = 0 := by
  intro d
  induction d with
  | zero => intro _; exact ⟨h, ht, h1, fun i h2 h3 => by omega⟩
  | succ d ih =>
    intro hd
    obtain ⟨g, t, o, z⟩ := ih (by omega)
    show Good n c M0 (if dnR M r d (r + 1 + d) r = 0 then dnR M r d else addR (dnR M r d) (r + 1 + d) r (dnR M r d (r + 1 + d) r)) ∧ TriN n (if dnR M r d (r + 1 + d) r = 0 then dnR M r d else addR (dnR M r d) (r + 1 + d) r (dnR M r d (r + 1 + d) r)) r ∧ (if dnR M r d (r + 1 + d) r = 0 then dnR M r d else addR (dnR M r d) (r + 1 + d) r (dnR M r d (r + 1 + d) r)) r r = 1 ∧ ∀ i, r + 1 ≤ i → i < r + 1 + (d + 1) → (if dnR M r d (r + 1 + d) r = 0 then dnR M r d else addR (dnR M r d) (r + 1 + d) r (dnR M r d (r + 1 + d) r)) i r = 0
    generalize dnR M r d = N at *
    by_cases h0 : N (r + 1 + d) r = 0
    · rw [if_pos h0]
      refine ⟨g, t, o, fun i h2 h3 => ?_⟩
      by_cases e : i = r + 1 + d
      · rw [e]; exact h0
      · exact z i h2 (by omega)
    · rw [if_neg h0]
      refine ⟨g.add _ _ _ (by omega) hr (by omega) (g.byt _ _), fun k hk => ?_, ?_, fun i h2 h3 => ?_⟩
      · have hz := (t k hk).2 r hk hr
        refine ⟨by rw [add_zero_col (n := n) _ _ hz]; exact (t k hk).1, fun i h3 h4 => by rw [add_zero_col (n := n) _ _ hz]; exact (t k hk).2 i h3 h4⟩
      · unfold addR; rw [if_neg (by omega)]; exact o
      · unfold addR
        by_cases e : i = r + 1 + d
        · rw [if_pos e, o, gm_comm, gm_one _ (g.byt _ _), Nat.xor_self]
        · rw [if_neg e]; exact z i h2 (by omega)
theorem ph1_law {n c : Nat} {M : Nat → Nat → Nat} (hM : Byt M) : ∀ r, r ≤ n →
    (∀ M1, ph1 n M r = some M1 → Good n c M M1 ∧ TriN n M1 r) ∧ (ph1 n M r = none → det n (toE M) = 0) := by
  intro r
  induction r with
  | zero =>
    intro _
    refine ⟨fun M1 h => ?_, fun h => by cases h⟩
    obtain rfl := Option.some.inj h
    exact ⟨Good.refl hM, fun k hk => by omega⟩
  | succ r ih =>
    intro hr
    obtain ⟨ih1, ih2⟩ := ih (by omega)
    have e : ph1 n M (r + 1) = (ph1 n M r).bind fun M1 => (pvR M1 r r (n - r)).bind fun p => some (dnR (oneR (swpR M1 r p) r) r (n - (r + 1))) := rfl
    rw [e]
    cases h1 : ph1 n M r with
    | none =>
      rw [Option.bind_none]
      exact ⟨fun M1 h => (by cases h), fun _ => ih2 h1⟩
    | some M1 =>
      obtain ⟨g, t⟩ := ih1 M1 h1
      rw [Option.bind_some]
      cases h2 : pvR M1 r r (n - r) with
      | none =>
        rw [Option.bind_none]
        refine ⟨fun M1 h => (by cases h), fun _ => g.det0.2 ?_⟩
        refine det_stuck r n _ (by omega) t.to fun i h3 h4 => ?_
        unfold toE
        rw [pv_not M1 r _ _ h2 i h3 (by omega)]
        rfl
      | some p =>
        rw [Option.bind_some]
        refine ⟨fun M2 h => ?_, fun h => by cases h⟩
        obtain rfl := Option.some.inj h
        obtain ⟨p1, p2, p3⟩ := pv_is M1 r _ _ p h2
        have t2 := tri_swp t (by omega) p1 (by omega)
        obtain ⟨g3, t3, o3⟩ := one_step (g.swp r p (by omega) (by omega)) t2 (by omega) (by unfold swpR; rw [if_pos rfl]; exact p3)
        obtain ⟨g4, t4, o4, z4⟩ := dn_step g3 t3 (by omega) o3 (n - (r + 1)) (by omega)
        refine ⟨g4, fun k hk => ?_⟩
        by_cases e : k = r
        · subst e
          exact ⟨o4, fun i h5 h6 => z4 i h5 (by omega)⟩
        · exact t4 k (by omega)
theorem up_step {n c d : Nat} {M0 M : Nat → Nat → Nat} (h : Good n c M0 M) (ht : TriN n M n) (hd : d < n) (hz : ∀ k, k < d → ∀ i, i < k → M i k = 0) : ∀ m, m ≤ d →
    Good n c M0 (upR M d m) ∧ TriN n (upR M d m) n ∧ (∀ k, k < d → ∀ i, i < k → upR M d m i k = 0) ∧ ∀ i, i < m → upR M d m i d = 0 := by
  intro m
  induction m with
  | zero => intro _; exact ⟨h, ht, hz, fun i h2 => by omega⟩
  | succ m ih =>
    intro hm
    obtain ⟨g, t, z, u⟩ := ih (by omega)
    show Good n c M0 (if upR M d m m d = 0 then upR M d m else addR (upR M d m) m d (upR M d m m d)) ∧ TriN n (if upR M d m m d = 0 then upR M d m else addR (upR M d m) m d (upR M d m m d)) n ∧ (∀ k, k < d → ∀ i, i < k → (if upR M d m m d = 0 then upR M d m else addR (upR M d m) m d (upR M d m m d)) i k = 0) ∧ ∀ i, i < m + 1 → (if upR M d m m d = 0 then upR M d m else addR (upR M d m) m d (upR M d m m d)) i d = 0
    generalize upR M d m = N at *
    by_cases h0 : N m d = 0
    · rw [if_pos h0]
      refine ⟨g, t, z, fun i h2 => ?_⟩
      by_cases e : i = m
      · rw [e]; exact h0
      · exact u i (by omega)
    · rw [if_neg h0]
      have hrow : ∀ k, k < d → N d k = 0 := fun k hk => (t k (by omega)).2 d hk hd
      refine ⟨g.add _ _ _ (by omega) hd (by omega) (g.byt _ _), fun k hk => ?_, fun k hk i hi => ?_, fun i h2 => ?_⟩
      · by_cases e : k < d
        · refine ⟨by rw [add_zero_col (n := n) _ _ (hrow k e)]; exact (t k hk).1, fun i h3 h4 => by rw [add_zero_col (n := n) _ _ (hrow k e)]; exact (t k hk).2 i h3 h4⟩
        · unfold addR
          refine ⟨by rw [if_neg (by omega)]; exact (t k hk).1, fun i h3 h4 => by rw [if_neg (by omega)]; exact (t k hk).2 i h3 h4⟩
      · rw [add_zero_col (n := n) _ _ (hrow k hk)]; exact z k hk i hi
      · unfold addR
        by_cases e : i = m
        · rw [if_pos e, (t d hd).1, gm_comm, gm_one _ (g.byt _ _), Nat.xor_self]
        · rw [if_neg e]; exact u i (by omega)
theorem ph2_law {n c : Nat} {M0 M : Nat → Nat → Nat} (h : Good n c M0 M) (ht : TriN n M n) : ∀ d, d ≤ n → Good n c M0 (ph2 M d) ∧ TriN n (ph2 M d) n ∧ ∀ k, k < d → ∀ i, i < k → ph2 M d i k = 0 := by
  intro d
  induction d with
  | zero => intro _; exact ⟨h, ht, fun k hk => by omega⟩
  | succ d ih =>
    intro hd
    obtain ⟨g, t, z⟩ := ih (by omega)
    obtain ⟨g2, t2, z2, u2⟩ := up_step g t (by omega) z d (Nat.le_refl _)
    refine ⟨g2, t2, fun k hk i hi => ?_⟩
    show upR (ph2 M d) d d i k = 0
    by_cases e : k = d
    · subst e; exact u2 i hi
    · exact z2 k (by omega) i hi
theorem gauss_law {n c : Nat} {M : Nat → Nat → Nat} (hM : Byt M) :
    (∀ M', gaussR n M = some M' → det n (toE M) ≠ 0 ∧ Good n c M M' ∧ ∀ i, i < n → ∀ j, j < n → M' i j = if i = j then 1 else 0) ∧ (gaussR n M = none → det n (toE M) = 0) := by
  obtain ⟨h1, h2⟩ := ph1_law (c := c) hM n (Nat.le_refl _)
  have e : gaussR n M = (ph1 n M n).bind fun M1 => some (ph2 M1 n) := rfl
  rw [e]
  cases hp : ph1 n M n with
  | none =>
    rw [Option.bind_none]
    exact ⟨fun M' h => (by cases h), fun _ => h2 hp⟩
  | some M1 =>
    rw [Option.bind_some]
    refine ⟨fun M' h => ?_, fun h => by cases h⟩
    obtain rfl := Option.some.inj h
    obtain ⟨g, t⟩ := h1 M1 hp
    obtain ⟨g2, t2, z2⟩ := ph2_law g t n (Nat.le_refl _)
    refine ⟨fun h0 => ?_, g2, fun i hi j hj => ?_⟩
    · have := g2.det0.1 h0
      rw [det_tri n _ t2.to] at this
      exact E.one_ne this
    · by_cases e : i = j
      · subst e; rw [if_pos rfl]; exact (t2 i hi).1
      · rw [if_neg e]
        rcases Nat.lt_or_gt_of_ne e with hl | hl
        · exact z2 j hj i hl
        · exact (t2 j hj).2 i hl hi
theorem gauss_inv {n : Nat} {M M' : Nat → Nat → Nat} (hM : Byt M) (hI : ∀ i, i < n → ∀ t, t < n → M i (n + t) = if i = t then 1 else 0) (h : gaussR n M = some M') :
    (∀ i, i < n → ∀ t, t < n → sm n (fun k => toE M i k * toE M' k (n + t)) = if i = t then 1 else 0) ∧ (∀ i, i < n → ∀ t, t < n → sm n (fun k => toE M' i (n + k) * toE M k t) = if i = t then 1 else 0) := by
  obtain ⟨_, g, hid⟩ := (gauss_law (c := n + n) hM).1 M' h
  obtain ⟨P, hP⟩ := g.eqv.1.mat
  obtain ⟨Q, hQ⟩ := g.eqv.2.mat
  have eI : ∀ i, i < n → ∀ t, t < n → toE M i (n + t) = if i = t then 1 else 0 := fun i hi t ht => by
    unfold toE; rw [hI i hi t ht]; split <;> rfl
  have eL : ∀ i, i < n → ∀ t, t < n → toE M' i t = if i = t then 1 else 0 := fun i hi t ht => by
    unfold toE; rw [hid i hi t ht]; split <;> rfl
  have right : ∀ i, i < n → ∀ t, t < n → toE M' i (n + t) = P i t := fun i hi t ht => by
    rw [hP i hi (n + t) (by omega), sm_single (p := t) ht fun k hk hne => by rw [eI k hk t ht, if_neg hne, E.mul_zero], eI t ht t ht, if_pos rfl, E.mul_one]
  have left : ∀ i, i < n → ∀ t, t < n → toE M i t = Q i t := fun i hi t ht => by
    rw [hQ i hi t (by omega), sm_single (p := t) ht fun k hk hne => by rw [eL k hk t ht, if_neg hne, E.mul_zero], eL t ht t ht, if_pos rfl, E.mul_one]
  refine ⟨fun i hi t ht => ?_, fun i hi t ht => ?_⟩
  · rw [← eI i hi t ht, hQ i hi (n + t) (by omega)]
    exact sm_congr fun k hk => by rw [left i hi k hk]
  · rw [← eL i hi t ht, hP i hi t (by omega)]
    exact sm_congr fun k hk => by rw [right i hi k hk]
end Go.Proofs.YtpeikjnkbjabpaaDoor.V
