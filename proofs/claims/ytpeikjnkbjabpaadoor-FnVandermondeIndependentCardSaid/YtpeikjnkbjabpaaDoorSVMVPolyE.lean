import Derived.Test.YtpeikjnkbjabpaaDoorSVMVGaussE
import Derived.Test.YtpeikjnkbjabpaaDoorSVV6
namespace Go.Proofs.YtpeikjnkbjabpaaDoor.V
open Go.RowKit
set_option linter.unusedVariables false
def pw (a : E) : Nat → E
  | 0 => 1
  | n + 1 => pw a n * a
def pev (m : Nat) (p : Nat → E) (a : E) : E := sm m (fun j => p j * pw a j)
def quo (m : Nat) (p : Nat → E) (a : E) (j : Nat) : E := sm (m - j) (fun s => p (j + 1 + s) * pw a s)
theorem quo_step (m : Nat) (p : Nat → E) (a : E) (j : Nat) (h : j < m) : quo m p a j = p (j + 1) + a * quo m p a (j + 1) := by
  unfold quo
  obtain ⟨d, hd⟩ : ∃ d, m - j = d + 1 := ⟨m - j - 1, by omega⟩
  rw [hd, sm_first, show m - (j + 1) = d by omega, sm_mul]
  congr 1
  · show p (j + 1 + 0) * 1 = _
    rw [E.mul_one, Nat.add_zero]
  · refine sm_congr fun s _ => ?_
    show p (j + 1 + (s + 1)) * (pw a s * a) = _
    rw [show j + 1 + (s + 1) = j + 1 + 1 + s by omega]
    ac_rfl
theorem quo_end (m : Nat) (p : Nat → E) (a : E) : quo m p a m = 0 := by
  unfold quo
  rw [Nat.sub_self]
  rfl
theorem pev_quo (m : Nat) (p : Nat → E) (a y : E) : pev (m + 1) p y = p 0 + a * quo m p a 0 + (y + a) * pev m (quo m p a) y := by
  have h1 : pev (m + 1) p y = p 0 + sm m (fun j => p (j + 1) * pw y (j + 1)) := by
    unfold pev
    rw [sm_first]
    congr 1
    exact E.mul_one _
  have h2 : sm m (fun j => p (j + 1) * pw y (j + 1)) = sm m (fun j => y * (quo m p a j * pw y j)) + sm m (fun j => a * (quo m p a (j + 1) * pw y (j + 1))) := by
    rw [← sm_add]
    refine sm_congr fun j hj => ?_
    have e : p (j + 1) = quo m p a j + a * quo m p a (j + 1) := by
      rw [quo_step m p a j hj, E.add_cancel]
    rw [e, E.add_mul]
    show quo m p a j * (pw y j * y) + _ = _
    congr 1
    · ac_rfl
    · ac_rfl
  have h3 : a * quo m p a 0 + sm m (fun j => a * (quo m p a (j + 1) * pw y (j + 1))) = a * pev m (quo m p a) y := by
    have h4 := sm_first m (fun j => a * (quo m p a j * pw y j))
    have h5 : sm (m + 1) (fun j => a * (quo m p a j * pw y j)) = sm m (fun j => a * (quo m p a j * pw y j)) := by
      show sm m _ + a * (quo m p a m * pw y m) = _
      rw [quo_end, E.zero_mul, E.mul_zero, E.add_zero]
    rw [h5] at h4
    unfold pev
    rw [sm_mul, h4]
    show _ = a * (quo m p a 0 * 1) + _
    rw [E.mul_one]
  have h6 : sm m (fun j => y * (quo m p a j * pw y j)) = y * pev m (quo m p a) y := by
    unfold pev
    rw [sm_mul]
  have h7 : sm m (fun j => a * (quo m p a (j + 1) * pw y (j + 1))) = a * quo m p a 0 + a * pev m (quo m p a) y := by
    rw [← h3, ← E.add_assoc, E.add_self, E.zero_add]
  rw [h1, h2, h6, h7, E.add_mul]
  ac_rfl
theorem root_bound : ∀ (m : Nat) (p : Nat → E) (x : Nat → E), (∀ i, i < m → ∀ j, j < m → i ≠ j → x i ≠ x j) → (∀ i, i < m → pev m p (x i) = 0) → ∀ j, j < m → p j = 0 := by
  intro m
  induction m with
  | zero => intro p x _ _ j hj; omega
  | succ m ih =>
    intro p x hd h0
    have ha : p 0 + x m * quo m p (x m) 0 = 0 := by
      have h := pev_quo m p (x m) (x m)
      rw [h0 m (by omega), E.add_self, E.zero_mul, E.add_zero] at h
      exact h.symm
    have hq : ∀ j, j < m → quo m p (x m) j = 0 := by
      refine ih _ x (fun i hi j hj => hd i (by omega) j (by omega)) fun i hi => ?_
      have h := pev_quo m p (x m) (x i)
      rw [h0 i (by omega), ha, E.zero_add] at h
      rcases E.mul_eq0 h.symm with h | h
      · exact absurd (E.eq_of_add h) (hd i (by omega) m (by omega) (by omega))
      · exact h
    have hq' : ∀ j, j ≤ m → quo m p (x m) j = 0 := fun j hj => by
      by_cases e : j = m
      · rw [e]; exact quo_end m p (x m)
      · exact hq j (by omega)
    intro j hj
    cases j with
    | zero =>
      rw [hq' 0 (by omega), E.mul_zero, E.add_zero] at ha
      exact ha
    | succ j =>
      have h := quo_step m p (x m) j (by omega)
      rw [hq' j (by omega), hq' (j + 1) (by omega), E.mul_zero, E.add_zero] at h
      exact h.symm
theorem ph1_stuck {n c : Nat} {M : Nat → Nat → Nat} (hM : Byt M) : ∀ r, r ≤ n → ph1 n M r = none → ∃ s M1, s < n ∧ Good n c M M1 ∧ TriN n M1 s ∧ ∀ i, s ≤ i → i < n → M1 i s = 0 := by
  intro r
  induction r with
  | zero => intro _ h; cases h
  | succ r ih =>
    intro hr h
    have e : ph1 n M (r + 1) = (ph1 n M r).bind fun M1 => (pvR M1 r r (n - r)).bind fun p => some (dnR (oneR (swpR M1 r p) r) r (n - (r + 1))) := rfl
    rw [e] at h
    cases h1 : ph1 n M r with
    | none => exact ih (by omega) h1
    | some M1 =>
      obtain ⟨g, t⟩ := (ph1_law (c := c) hM r (by omega)).1 M1 h1
      rw [h1, Option.bind_some] at h
      cases h2 : pvR M1 r r (n - r) with
      | none => exact ⟨r, M1, by omega, g, t, fun i h3 h4 => pv_not M1 r _ _ h2 i h3 (by omega)⟩
      | some p =>
        rw [h2, Option.bind_some] at h
        cases h
theorem kernel_vec {n r : Nat} {L : Nat → Nat → E} (hr : r < n) (ht : Tri n L r) (h0 : ∀ i, r ≤ i → i < n → L i r = 0) : ∀ d, d ≤ r →
    ∃ v : Nat → E, v r = 1 ∧ (∀ j, j < r - d → v j = 0) ∧ ∀ i, r - d ≤ i → i < n → sm n (fun j => L i j * v j) = 0 := by
  intro d
  induction d with
  | zero =>
    intro _
    refine ⟨fun j => if j = r then 1 else 0, if_pos rfl, fun j hj => if_neg (by omega), fun i hi hn => ?_⟩
    show sm n (fun j => L i j * (if j = r then 1 else 0)) = 0
    rw [sm_single (p := r) hr fun j _ hne => by rw [if_neg hne, E.mul_zero], if_pos rfl, E.mul_one]
    exact h0 i (by omega) hn
  | succ d ih =>
    intro hd
    obtain ⟨v, v1, v2, v3⟩ := ih (by omega)
    obtain ⟨k, hk⟩ : ∃ k, k = r - (d + 1) := ⟨_, rfl⟩
    have hvk : v k = 0 := v2 k (by omega)
    refine ⟨fun j => if j = k then sm n (fun j => L k j * v j) else v j, by dsimp only; rw [if_neg (by omega)]; exact v1, fun j hj => by dsimp only; rw [if_neg (by omega)]; exact v2 j (by omega), fun i hi hn => ?_⟩
    by_cases e : i = k
    · subst e
      rw [sm_congr (g := fun j => L i j * v j + (if j = i then L i i * sm n (fun j => L i j * v j) else 0)) fun j _ => by
        dsimp only
        by_cases e : j = i
        · rw [if_pos e, if_pos e, e, hvk, E.mul_zero, E.zero_add]
        · rw [if_neg e, if_neg e, E.add_zero], sm_add, sm_single (p := i) (f := fun j => if j = i then L i i * sm n (fun j => L i j * v j) else 0) hn fun j _ hne => if_neg hne]
      rw [if_pos rfl, (ht i (by omega)).1, E.one_mul, E.add_self]
    · rw [sm_congr (g := fun j => L i j * v j) fun j _ => by
        dsimp only
        by_cases e2 : j = k
        · rw [if_pos e2, e2, (ht k (by omega)).2 i (by omega) hn, E.zero_mul, E.zero_mul]
        · rw [if_neg e2]]
      exact v3 i (by omega) hn
theorem powers_det {n : Nat} {V : Nat → Nat → Nat} (hV : Byt V) (x : Nat → E) (hp : ∀ i, i < n → ∀ j, j < n → toE V i j = pw (x i) j) (hd : ∀ i, i < n → ∀ j, j < n → i ≠ j → x i ≠ x j) : det n (toE V) ≠ 0 := by
  intro hz
  have hg : gaussR n V = none := by
    cases hg : gaussR n V with
    | none => rfl
    | some M' => exact absurd hz ((gauss_law (c := n) hV).1 M' hg).1
  have hph : ph1 n V n = none := by
    unfold gaussR at hg
    cases h : ph1 n V n with
    | none => rfl
    | some M1 => rw [h] at hg; cases hg
  obtain ⟨s, M1, hs, g, t, z⟩ := ph1_stuck (c := n) hV n (Nat.le_refl _) hph
  obtain ⟨v, v1, _, v3⟩ := kernel_vec (L := toE M1) hs t.to (fun i h1 h2 => by unfold toE; rw [z i h1 h2]; rfl) s (Nat.le_refl _)
  obtain ⟨Q, hQ⟩ := g.eqv.2.mat
  have hv : ∀ j, j < n → v j = 0 := by
    refine root_bound n v x hd fun i hi => ?_
    unfold pev
    rw [sm_congr (g := fun j => sm n (fun k => Q i k * (toE M1 k j * v j))) fun j hj => by
      rw [← hp i hi j hj, hQ i hi j hj, sm_mul]
      exact sm_congr fun k _ => by ac_rfl, sm_swap]
    refine sm_zero fun k hk => ?_
    rw [← sm_mul, v3 k (by omega) hk, E.mul_zero]
  rw [hv s hs] at v1
  exact E.one_ne v1.symm
def pm (ρ : Nat → E) : Nat → Nat → E
  | 0, j => if j = 0 then 1 else 0
  | c + 1, j => (if j = 0 then 0 else pm ρ c (j - 1)) + pm ρ c j * ρ c
def pd : Nat → (Nat → E) → E
  | 0, _ => 1
  | c + 1, f => pd c f * f c
theorem pm_high (ρ : Nat → E) : ∀ c j, c < j → pm ρ c j = 0 := by
  intro c
  induction c with
  | zero => intro j hj; exact if_neg (by omega)
  | succ c ih =>
    intro j hj
    show (if j = 0 then 0 else pm ρ c (j - 1)) + pm ρ c j * ρ c = 0
    rw [if_neg (by omega), ih (j - 1) (by omega), ih j (by omega), E.zero_mul, E.add_zero]
theorem pm_ev (ρ : Nat → E) (y : E) : ∀ c, pev (c + 1) (pm ρ c) y = pd c (fun t => y + ρ t) := by
  intro c
  induction c with
  | zero =>
    show (0 : E) + 1 * 1 = 1
    rw [E.zero_add, E.mul_one]
  | succ c ih =>
    have h1 : pev (c + 2) (pm ρ (c + 1)) y = sm (c + 2) (fun j => (if j = 0 then 0 else pm ρ c (j - 1)) * pw y j) + sm (c + 2) (fun j => pm ρ c j * ρ c * pw y j) := by
      unfold pev
      rw [← sm_add]
      exact sm_congr fun j _ => E.add_mul _ _ _
    have h2 : sm (c + 2) (fun j => (if j = 0 then 0 else pm ρ c (j - 1)) * pw y j) = y * pev (c + 1) (pm ρ c) y := by
      rw [sm_first]
      unfold pev
      rw [if_pos rfl, E.zero_mul, E.zero_add, sm_mul]
      refine sm_congr fun j _ => ?_
      rw [if_neg (by omega), Nat.add_sub_cancel]
      show pm ρ c j * (pw y j * y) = _
      ac_rfl
    have h3 : sm (c + 2) (fun j => pm ρ c j * ρ c * pw y j) = ρ c * pev (c + 1) (pm ρ c) y := by
      show sm (c + 1) (fun j => pm ρ c j * ρ c * pw y j) + pm ρ c (c + 1) * ρ c * pw y (c + 1) = _
      rw [pm_high ρ c (c + 1) (by omega), E.zero_mul, E.zero_mul, E.add_zero]
      unfold pev
      rw [sm_mul]
      exact sm_congr fun j _ => by ac_rfl
    show pev (c + 2) (pm ρ (c + 1)) y = pd c (fun t => y + ρ t) * (y + ρ c)
    rw [h1, h2, h3, ih, E.mul_add]
    ac_rfl
theorem pd_zero {c t : Nat} {f : Nat → E} (ht : t < c) (h : f t = 0) : pd c f = 0 := by
  induction c with
  | zero => omega
  | succ c ih =>
    show pd c f * f c = 0
    by_cases e : t = c
    · rw [← e, h, E.mul_zero]
    · rw [ih (by omega), E.zero_mul]
theorem pd_inv {c : Nat} {f : Nat → E} (h : ∀ t, t < c → f t ≠ 0) : pd c (fun t => (f t).inv) * pd c f = 1 := by
  induction c with
  | zero => exact E.mul_one 1
  | succ c ih =>
    show pd c (fun t => (f t).inv) * (f c).inv * (pd c f * f c) = 1
    have h1 := ih fun t ht => h t (by omega)
    have h2 := E.mul_inv (f c) (h c (by omega))
    rw [show pd c (fun t => (f t).inv) * (f c).inv * (pd c f * f c) = (pd c (fun t => (f t).inv) * pd c f) * (f c * (f c).inv) by ac_rfl, h1, h2, E.mul_one]
def lgc (x y : Nat → E) (n i : Nat) : E := y i * pd (n - 1) (fun t => (x i + x (sk i t)).inv)
def lgr (x y : Nat → E) (n m j : Nat) : E := sm m (fun i => pm (fun t => x (sk i t)) (n - 1) j * lgc x y n i)
theorem lagrange {n : Nat} (x y : Nat → E) (hd : ∀ i, i < n → ∀ j, j < n → i ≠ j → x i ≠ x j) (r : Nat) (hr : r < n) : pev n (lgr x y n n) (x r) = y r := by
  obtain ⟨m, rfl⟩ : ∃ m, n = m + 1 := ⟨n - 1, by omega⟩
  have h1 : pev (m + 1) (lgr x y (m + 1) (m + 1)) (x r) = sm (m + 1) (fun i => lgc x y (m + 1) i * pd m (fun t => x r + x (sk i t))) := by
    unfold pev lgr
    rw [sm_congr (g := fun j => sm (m + 1) (fun i => lgc x y (m + 1) i * (pm (fun t => x (sk i t)) m j * pw (x r) j))) fun j _ => by
      rw [sm_mul']
      exact sm_congr fun i _ => by
        rw [Nat.add_sub_cancel]
        ac_rfl, sm_swap]
    refine sm_congr fun i _ => ?_
    rw [← sm_mul]
    congr 1
    exact pm_ev _ _ m
  rw [h1, sm_single (p := r) hr fun i hi hne => ?_]
  · unfold lgc
    rw [Nat.add_sub_cancel, E.mul_assoc, pd_inv fun t ht => ?_, E.mul_one]
    intro h
    have hs : sk r t ≠ r := by unfold sk; split <;> omega
    have hl : sk r t < m + 1 := by unfold sk; split <;> omega
    exact hd r hr _ hl (Ne.symm hs) (E.eq_of_add h)
  · rw [pd_zero (t := if r < i then r else r - 1) (by split <;> omega) ?_, E.mul_zero]
    have hs : sk i (if r < i then r else r - 1) = r := by
      unfold sk
      by_cases h : r < i
      · rw [if_pos h, if_pos h]
      · rw [if_neg h, if_neg (by omega)]; omega
    rw [hs, E.add_self]
theorem inverse_cols {n : Nat} {V W : Nat → Nat → E} (x : Nat → E) (hp : ∀ i, i < n → ∀ j, j < n → V i j = pw (x i) j) (hd : ∀ i, i < n → ∀ j, j < n → i ≠ j → x i ≠ x j) (hW : ∀ i, i < n → ∀ t, t < n → sm n (fun k => W i k * V k t) = if i = t then 1 else 0)
    (i : Nat) (hi : i < n) (k : Nat) (hk : k < n) : lgr x (fun r => if r = i then 1 else 0) n n k = W k i := by
  have hc := lagrange x (fun r => if r = i then (1 : E) else 0) hd
  generalize lgr x (fun r => if r = i then (1 : E) else 0) n n = c at hc ⊢
  have h1 : sm n (fun t => sm n (fun s => W k s * V s t) * c t) = c k := by
    rw [sm_single (p := k) hk fun t ht hne => by rw [hW k hk t ht, if_neg (Ne.symm hne), E.zero_mul], hW k hk k hk, if_pos rfl, E.one_mul]
  rw [← h1, sm_congr (g := fun t => sm n (fun s => W k s * (c t * V s t))) fun t _ => by
    rw [sm_mul']
    exact sm_congr fun s _ => by ac_rfl, sm_swap]
  rw [sm_congr (g := fun s => W k s * (if s = i then 1 else 0)) fun s hs => by
    rw [← sm_mul]
    congr 1
    rw [← hc s hs]
    exact sm_congr fun t ht => by rw [hp s hs t ht]]
  rw [sm_single (p := i) hi fun s _ hne => by rw [if_neg hne, E.mul_zero], if_pos rfl, E.mul_one]
theorem gpow_per' (n m : Nat) : gpow (n + 255 * m) = gpow n := by
  induction m with
  | zero => rfl
  | succ m ih => rw [show n + 255 * (m + 1) = n + 255 * m + 255 by omega, gpow_per, ih]
theorem gpow_red (n : Nat) : gpow (n % 255) = gpow n := by
  have h := gpow_per' (n % 255) (n / 255)
  rw [Nat.mod_add_div] at h
  exact h.symm
theorem pw_gpow (l : Nat) (hl : l < 255) : ∀ n, (pw ⟨gpow l, gpow_all_lt l⟩ n).n = gpow (l * n) := by
  intro n
  induction n with
  | zero => rfl
  | succ n ih =>
    show gmul (pw ⟨gpow l, gpow_all_lt l⟩ n).n (gpow l) = gpow (l * (n + 1))
    rw [ih, gm_comm, gm_pow l _ hl (gpow_all_lt _), xp_gpow]
    rfl
theorem pw_zero (n : Nat) : pw 0 (n + 1) = 0 := E.mul_zero _
theorem gexp_pw (a n : Nat) (ha : a < 256) : el (gexp a n) = pw (el a) n := by
  unfold gexp
  by_cases h0 : n = 0
  · subst h0; rw [if_pos rfl]; rfl
  · rw [if_neg h0]
    by_cases h1 : a = 0
    · subst h1
      obtain ⟨m, rfl⟩ : ∃ m, n = m + 1 := ⟨n - 1, by omega⟩
      rw [if_pos rfl]
      exact (pw_zero m).symm
    · rw [if_neg h1, gpow_red]
      have hl := glog_lt a
      have e : el a = ⟨gpow (glog a), gpow_all_lt _⟩ := E.ext (by rw [el_n ha]; exact (gpow_glog a ha h1).symm)
      refine E.ext ?_
      rw [e, pw_gpow _ hl, el_n (gpow_all_lt _)]
theorem gexp_lt (a n : Nat) : gexp a n < 256 := by
  unfold gexp
  split
  · decide
  · split
    · decide
    · exact gpow_all_lt _
end Go.Proofs.YtpeikjnkbjabpaaDoor.V
