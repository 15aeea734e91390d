import Derived.Test.YtpeikjnkbjabpaaDoorSVMVIdE
import Derived.Test.YtpeikjnkbjabpaaDoorSVMVPolyE
namespace Go.Proofs.YtpeikjnkbjabpaaDoor.V
open Go.RowKit Go.Proofs.YtpeikjnkbjabpaaDoorW.PrintWords Go.Proofs.YtpeikjnkbjabpaaDoorW.PrintLast Go.Proofs.YtpeikjnkbjabpaaDoorW.PrintMore
set_option linter.unusedVariables false
theorem inverse_ev (a : E) (h : a ≠ 0) : Ev (fun k => spec_Inverse.f k ((a.n : Nat) : Int)) ((a.inv.n : Nat) : Int) := by
  have h0 : a.inv.n ≠ 0 := fun e => E.inv_ne a (E.ext e)
  have hlt := a.inv.lt
  unfold spec_Inverse.f
  have key := for_ev (fun k (s : Unit) i => spec_Inverse.l0 k ((a.n : Nat) : Int) i) a.inv.n (fun _ => ()) ((a.inv.n : Nat) : Int) ?_ ?_ (a.inv.n - 1) 1 (by omega)
  · exact key
  · refine Ev.step (f := fun k => (spec_Mul.f k ((a.n : Nat) : Int) ((a.inv.n : Nat) : Int)).bind fun t209 => (if t209 = 1 then (some ((a.inv.n : Nat) : Int)) else (spec_Inverse.l0 k ((a.n : Nat) : Int) (wrap64 (((a.inv.n : Nat) : Int) + 1))))) (fun k => ?_) ?_
    · simp only [spec_Inverse.l0]
      rw [if_pos (by omega), show ((a.inv.n : Nat) : Int) % 256 = ((a.inv.n : Nat) : Int) by omega]
    · refine Ev.bind (mulE_ev a a.inv) ?_
      rw [E.mul_inv a h]
      exact Ev.now _
  · intro i hi hnext
    refine Ev.step (f := fun k => (spec_Mul.f k ((a.n : Nat) : Int) (i : Int)).bind fun t209 => (if t209 = 1 then (some (i : Int)) else (spec_Inverse.l0 k ((a.n : Nat) : Int) ((i + 1 : Nat) : Int)))) (fun k => ?_) ?_
    · simp only [spec_Inverse.l0]
      rw [if_pos (by omega), show (i : Int) % 256 = (i : Int) by omega, wr1 i (by omega)]
    · refine Ev.bind (mul_ev a.n i a.lt (by omega)) ?_
      have hne : ¬ (((gmul a.n i : Nat) : Int) = 1) := by
        intro e
        have e2 : a * ⟨i, by omega⟩ = 1 := E.ext (by show gmul a.n i = 1; omega)
        have e3 : (⟨i, by omega⟩ : E) = a.inv := by
          have : a.inv * (a * ⟨i, by omega⟩) = a.inv * 1 := by rw [e2]
          rw [← E.mul_assoc, E.mul_comm a.inv a, E.mul_inv a h, E.one_mul, E.mul_one] at this
          exact this
        have e4 : i = a.inv.n := congrArg E.n e3
        omega
      simp only [if_neg hne]
      exact hnext
theorem div_ev (a b : E) (h : b ≠ 0) : Ev (fun k => spec_Div.f k ((a.n : Nat) : Int) ((b.n : Nat) : Int)) (((a * b.inv).n : Nat) : Int) := by
  unfold spec_Div.f
  exact Ev.bind (inverse_ev b h) (Ev.bind (mulE_ev a b.inv) (Ev.now _))
def te (n : Nat) (f : Nat → E) : List Int := tab n (fun j => (((f j).n : Nat) : Int))
theorem te_length (n : Nat) (f : Nat → E) : (te n f).length = n := tab_length _ _
theorem te_at (n : Nat) (f : Nat → E) (j : Nat) (h : j < n) : rd (te n f) (j : Int) = (((f j).n : Nat) : Int) := row_at _ _ _ h
theorem te_set (n : Nat) (f : Nat → E) (j : Nat) (v : E) : (te n f).set j ((v.n : Nat) : Int) = te n (fun t => if t = j then v else f t) := by
  unfold te
  rw [tab_set]
  refine tab_ext _ _ _ fun t _ => ?_
  by_cases e : t = j
  · simp only [if_pos e]
  · simp only [if_neg e]
theorem te_ext (n : Nat) (f g : Nat → E) (h : ∀ i, i < n → f i = g i) : te n f = te n g := tab_ext _ _ _ fun i hi => by rw [h i hi]
theorem te_zero (n : Nat) : List.replicate n (0 : Int) = te n (fun _ => 0) := tab_replicate n 0
theorem interpolate_ev (n : Nat) (x y : Nat → E) (hn : n ≤ 1000) (hd : ∀ i, i < n → ∀ j, j < n → i ≠ j → x i ≠ x j) : Ev (fun k => spec_Interpolate.f k (te n x) (te n y)) (te n (lgr x y n n)) := by
  unfold spec_Interpolate.f
  simp only [te_length, if_pos (show (0 : Int) ≤ (n : Int) by omega), Int.toNat_natCast, if_pos (show n ≤ 281474976710656 by omega), te_zero]
  refine for_ev0 (fun k (s : List Int) i => spec_Interpolate.l0 k (te n x) (te n y) s (n : Int) i) n (fun i => te n (lgr x y n i)) _ (Ev.now1 fun k => by simp only [spec_Interpolate.l0]; rw [if_neg (by omega)]) ?_
  intro i hi hout
  obtain ⟨ρ, hρ⟩ : ∃ ρ, ρ = fun t => x (sk i t) := ⟨_, rfl⟩
  obtain ⟨φ, hφ⟩ : ∃ φ, φ = fun t => (x i + x (sk i t)).inv := ⟨_, rfl⟩
  have hcn : (if n ≤ i then n else n - 1) = n - 1 := if_neg (by omega)
  refine Ev.step (f := fun k => spec_Interpolate.l1 k (te n x) (te n y) (te n (lgr x y n i)) (i : Int) (te 1 (pm ρ 0)) (((y i * pd 0 φ).n : Nat) : Int) (n : Int) (i : Int) (n : Int) 0) (fun k => ?_) ?_
  · simp only [spec_Interpolate.l0]
    rw [if_pos (by omega), if_pos (by omega), if_pos (by rw [te_length]; omega), te_at n y i hi, te_length]
    rw [show y i * pd 0 φ = y i from E.mul_one _]
    rfl
  have hl1 := for_ev0 (fun k (s : List Int × Int) q => spec_Interpolate.l1 k (te n x) (te n y) (te n (lgr x y n i)) (i : Int) s.1 s.2 (n : Int) (i : Int) (n : Int) q) n (fun q => (te ((if q ≤ i then q else q - 1) + 1) (pm ρ (if q ≤ i then q else q - 1)), (((y i * pd (if q ≤ i then q else q - 1) φ).n : Nat) : Int))) (te n (lgr x y n n)) ?_ ?_
  · rw [if_pos (Nat.zero_le i)] at hl1
    exact hl1
  · -- the polynomial is added
    dsimp only
    rw [hcn, show n - 1 + 1 = n by omega]
    refine Ev.step (f := fun k => spec_Interpolate.l3 k (te n x) (te n y) (te n (lgr x y n i)) (((y i * pd (n - 1) φ).n : Nat) : Int) (n : Int) (i : Int) (te n (pm ρ (n - 1))) (n : Int) 0) (fun k => ?_) ?_
    · simp only [spec_Interpolate.l1]
      rw [if_neg (by omega), te_length]
    have hfin : lgr x y n (i + 1) = fun t => lgr x y n i t + pm ρ (n - 1) t * (y i * pd (n - 1) φ) := by
      funext t
      rw [hρ, hφ]
      rfl
    have hl3 := for_ev0 (fun k (s : List Int) j => spec_Interpolate.l3 k (te n x) (te n y) s (((y i * pd (n - 1) φ).n : Nat) : Int) (n : Int) (i : Int) (te n (pm ρ (n - 1))) (n : Int) j) n (fun j => te n (fun t => lgr x y n i t + (if t < j then pm ρ (n - 1) t * (y i * pd (n - 1) φ) else 0))) (te n (lgr x y n n)) ?_ ?_
    · rw [te_ext n (fun t => lgr x y n i t + (if t < 0 then pm ρ (n - 1) t * (y i * pd (n - 1) φ) else 0)) (lgr x y n i) fun t _ => by rw [if_neg (by omega), E.add_zero]] at hl3
      exact hl3
    · rw [te_ext n (fun t => lgr x y n i t + (if t < n then pm ρ (n - 1) t * (y i * pd (n - 1) φ) else 0)) (lgr x y n (i + 1)) fun t ht => by rw [if_pos ht, hfin]]
      refine Ev.step (fun k => ?_) hout
      simp only [spec_Interpolate.l3]
      rw [if_neg (by omega), wr1 i (by omega)]
    · intro j hj h
      have hm := mulE_ev (pm ρ (n - 1) j) (y i * pd (n - 1) φ)
      obtain ⟨f, hf⟩ : ∃ f, f = fun t => lgr x y n i t + (if t < j then pm ρ (n - 1) t * (y i * pd (n - 1) φ) else 0) := ⟨_, rfl⟩
      rw [← hf]
      refine Ev.step (f := fun k => (spec_Mul.f k (((pm ρ (n - 1) j).n : Nat) : Int) (((y i * pd (n - 1) φ).n : Nat) : Int)).bind fun t234 => (spec_Interpolate.l3 k (te n x) (te n y) ((te n f).set j (Go.bits .xor .u8 (((f j).n : Nat) : Int) t234)) (((y i * pd (n - 1) φ).n : Nat) : Int) (n : Int) (i : Int) (te n (pm ρ (n - 1))) (n : Int) ((j + 1 : Nat) : Int))) (fun k => ?_) ?_
      · simp only [spec_Interpolate.l3]
        rw [if_pos (by omega), if_pos (by omega), if_pos (by rw [te_length]; omega), if_pos (by rw [te_length]; omega), te_at n _ j hj, te_at n _ j hj, Int.toNat_natCast, wr1 j (by omega)]
      · refine Ev.bind hm ?_
        rw [xor_n, te_set]
        have e9 := te_ext n (fun t => if t = j then f j + pm ρ (n - 1) j * (y i * pd (n - 1) φ) else f t) (fun t => lgr x y n i t + (if t < j + 1 then pm ρ (n - 1) t * (y i * pd (n - 1) φ) else 0)) fun t ht => by
          by_cases e : t = j
          · subst e
            rw [if_pos rfl, hf]
            dsimp only
            rw [if_neg (show ¬ t < t by omega), E.add_zero, if_pos (show t < t + 1 by omega)]
          · rw [if_neg e, hf]
            dsimp only
            by_cases e2 : t < j
            · rw [if_pos e2, if_pos (by omega)]
            · rw [if_neg e2, if_neg (by omega)]
        rw [e9]
        exact h
  · intro q hq h
    dsimp only at h ⊢
    by_cases e : q = i
    · subst e
      rw [if_neg (by omega), Nat.add_sub_cancel] at h
      rw [if_pos (Nat.le_refl q)]
      refine Ev.step (fun k => ?_) h
      simp only [spec_Interpolate.l1]
      rw [if_pos (by omega), if_pos trivial, wr1 q (by omega)]
    · obtain ⟨c, hc⟩ : ∃ c, c = if q ≤ i then q else q - 1 := ⟨_, rfl⟩
      have hc2 : (if q + 1 ≤ i then q + 1 else q + 1 - 1) = c + 1 := by rw [hc]; split <;> split <;> omega
      have hsk : sk i c = q := by unfold sk; rw [hc]; split <;> split <;> omega
      have hcl : c ≤ n := by rw [hc]; split <;> omega
      rw [hc2] at h
      rw [← hc]
      have hxq : ρ c = x q := by rw [hρ]; dsimp only; rw [hsk]
      refine Ev.step (f := fun k => spec_Interpolate.l2 k (te n x) (te n y) (te n (lgr x y n i)) (i : Int) (((y i * pd c φ).n : Nat) : Int) (q : Int) (te (c + 2) (fun _ => 0)) (n : Int) (i : Int) (n : Int) (q : Int) (te (c + 1) (pm ρ c)) ((c + 1 : Nat) : Int) 0) (fun k => ?_) ?_
      · simp only [spec_Interpolate.l1]
        rw [if_pos (by omega), if_neg (by omega), te_length, wr1 (c + 1) (by omega), if_pos (by omega), if_pos (by omega), Int.toNat_natCast, te_zero]
      have hl2 := for_ev0 (fun k (s : List Int) j => spec_Interpolate.l2 k (te n x) (te n y) (te n (lgr x y n i)) (i : Int) (((y i * pd c φ).n : Nat) : Int) (q : Int) s (n : Int) (i : Int) (n : Int) (q : Int) (te (c + 1) (pm ρ c)) ((c + 1 : Nat) : Int) j) (c + 1) (fun j => te (c + 2) (fun t => (if 0 < t ∧ t ≤ j then pm ρ c (t - 1) else 0) + (if t < j then pm ρ c t * x q else 0))) (te n (lgr x y n n)) ?_ ?_
      · rw [te_ext (c + 2) (fun t => (if 0 < t ∧ t ≤ 0 then pm ρ c (t - 1) else 0) + (if t < 0 then pm ρ c t * x q else 0)) (fun _ => 0) fun t _ => by rw [if_neg (by omega), if_neg (by omega), E.add_zero]] at hl2
        exact hl2
      · rw [te_ext (c + 2) (fun t => (if 0 < t ∧ t ≤ c + 1 then pm ρ c (t - 1) else 0) + (if t < c + 1 then pm ρ c t * x q else 0)) (pm ρ (c + 1)) fun t ht => by
          show _ = (if t = 0 then 0 else pm ρ c (t - 1)) + pm ρ c t * ρ c
          rw [hxq]
          by_cases e0 : t = 0
          · rw [if_pos e0, if_neg (by omega), if_pos (by omega)]
          · rw [if_neg e0, if_pos (by omega)]
            by_cases e1 : t < c + 1
            · rw [if_pos e1]
            · rw [if_neg e1, pm_high ρ c t (by omega), E.zero_mul]]
        have hdv : x i + x q ≠ 0 := fun h0 => hd i hi q hq (Ne.symm e) (E.eq_of_add h0)
        refine Ev.step (f := fun k => (spec_Div.f k (((y i * pd c φ).n : Nat) : Int) (((x i + x q).n : Nat) : Int)).bind fun t231 => (spec_Interpolate.l1 k (te n x) (te n y) (te n (lgr x y n i)) (i : Int) (te (c + 2) (pm ρ (c + 1))) t231 (n : Int) (i : Int) (n : Int) ((q + 1 : Nat) : Int))) (fun k => ?_) ?_
        · simp only [spec_Interpolate.l2]
          rw [if_neg (by omega), if_pos (by omega), if_pos (by rw [te_length]; omega), if_pos (by omega), if_pos (by rw [te_length]; omega), te_at n x i hi, te_at n x q hq, xor_n, wr1 q (by omega)]
        · refine Ev.bind (div_ev _ _ hdv) ?_
          have es : y i * pd c φ * (x i + x q).inv = y i * pd (c + 1) φ := by
            show _ = y i * (pd c φ * φ c)
            rw [show φ c = (x i + x q).inv by rw [hφ]; dsimp only; rw [hsk], E.mul_assoc]
          rw [es]
          exact h
      · intro j hj h
        obtain ⟨f, hf⟩ : ∃ f, f = fun t => (if 0 < t ∧ t ≤ j then pm ρ c (t - 1) else 0) + (if t < j then pm ρ c t * x q else 0) := ⟨_, rfl⟩
        rw [← hf]
        have hm := mulE_ev (pm ρ c j) (x q)
        have fj1 : f (j + 1) = 0 := by rw [hf]; dsimp only; rw [if_neg (by omega), if_neg (by omega), E.add_zero]
        refine Ev.step (f := fun k => (spec_Mul.f k (((pm ρ c j).n : Nat) : Int) (((x q).n : Nat) : Int)).bind fun t227 => (spec_Interpolate.l2 k (te n x) (te n y) (te n (lgr x y n i)) (i : Int) (((y i * pd c φ).n : Nat) : Int) (q : Int) ((te (c + 2) (fun t => if t = j + 1 then pm ρ c j else f t)).set j (Go.bits .xor .u8 (((f j).n : Nat) : Int) t227)) (n : Int) (i : Int) (n : Int) (q : Int) (te (c + 1) (pm ρ c)) ((c + 1 : Nat) : Int) ((j + 1 : Nat) : Int))) (fun k => ?_) ?_
        · simp only [spec_Interpolate.l2]
          have e5 : rd (te (c + 2) (fun t => if t = j + 1 then pm ρ c j else f t)) (j : Int) = (((f j).n : Nat) : Int) := by
            rw [te_at (c + 2) _ j (by omega), if_neg (by omega)]
          rw [wr1 j (by omega), if_pos (by omega), if_pos (by omega), if_pos (by rw [te_length]; omega), if_pos (by omega), if_pos (by rw [te_length]; omega), te_at (c + 2) f (j + 1) (by omega), te_at (c + 1) _ j hj, xor_n, fj1, E.zero_add, Int.toNat_natCast, te_set, Option.bind_some, if_pos (by rw [te_length]; omega), if_pos (by omega), if_pos (by rw [te_length]; omega), te_at n x q hq, e5, Int.toNat_natCast]
        · refine Ev.bind hm ?_
          rw [xor_n, te_set]
          have e9 := te_ext (c + 2) (fun t => if t = j then f j + pm ρ c j * x q else if t = j + 1 then pm ρ c j else f t) (fun t => (if 0 < t ∧ t ≤ j + 1 then pm ρ c (t - 1) else 0) + (if t < j + 1 then pm ρ c t * x q else 0)) fun t ht => by
            by_cases e1 : t = j
            · subst e1
              rw [if_pos rfl, hf]
              dsimp only
              rw [if_neg (show ¬ t < t by omega), E.add_zero, if_pos (show t < t + 1 by omega)]
              by_cases e2 : 0 < t
              · rw [if_pos ⟨e2, Nat.le_refl t⟩, if_pos ⟨e2, Nat.le_succ t⟩]
              · rw [if_neg (fun h => e2 h.1), if_neg (fun h => e2 h.1)]
            · rw [if_neg e1]
              by_cases e2 : t = j + 1
              · subst e2
                rw [if_pos rfl, if_pos ⟨by omega, by omega⟩, if_neg (by omega), Nat.add_sub_cancel, E.add_zero]
              · rw [if_neg e2, hf]
                dsimp only
                by_cases e3 : 0 < t ∧ t ≤ j
                · rw [if_pos e3, if_pos (show 0 < t ∧ t ≤ j + 1 from ⟨e3.1, by omega⟩)]
                  by_cases e4 : t < j
                  · rw [if_pos e4, if_pos (by omega)]
                  · rw [if_neg e4, if_neg (by omega)]
                · rw [if_neg e3, if_neg (show ¬ (0 < t ∧ t ≤ j + 1) by omega)]
                  by_cases e4 : t < j
                  · rw [if_pos e4, if_pos (by omega)]
                  · rw [if_neg e4, if_neg (by omega)]
          rw [e9]
          exact h
theorem turned_ev (n : Nat) (M : Nat → Nat → Nat) (h0 : 0 < n) (hn : n ≤ 1000) : Ev (fun k => spec_Turned.f k (nm n n M)) (nm n n (fun i j => M j i)) := by
  unfold spec_Turned.f
  have hcol : spec_Columns.f (nm n n M) = some (n : Int) := by
    rw [columns_f]
    unfold nm
    rw [mat_row0 _ _ _ h0, tab_length]
  have hl : (nm n n M).length = n := mat_length _ _ _
  simp only [hcol, Option.bind_some, hl]
  refine Ev.bind (zeros_ev n n (by omega) (by omega)) ?_
  have h := for_ev0 (fun k (s : List (List Int)) i => spec_Turned.l0 k (nm n n M) s (n : Int) i) n (fun i => mat n n (fun a b => if b < i then ((M b a : Nat) : Int) else 0)) (nm n n (fun i j => M j i)) ?_ ?_
  · have e : mat n n (fun a b => if b < 0 then ((M b a : Nat) : Int) else 0) = mat n n (fun _ _ => 0) := mat_ext _ _ _ _ fun i hi j hj => if_neg (by omega)
    rw [e] at h
    exact h
  · refine Ev.now1 fun k => ?_
    simp only [spec_Turned.l0]
    rw [if_neg (by omega)]
    congr 1
    exact mat_ext _ _ _ _ fun i hi j hj => if_pos hj
  intro i hi h
  have hra : rd_L1 (nm n n M) (i : Int) = tab n (fun j => ((M i j : Nat) : Int)) := mat_row _ _ _ _ hi
  refine Ev.step (f := fun k => spec_Turned.l1 k (nm n n M) (mat n n (fun a b => if b < i then ((M b a : Nat) : Int) else 0)) (i : Int) (n : Int) (i : Int) (n : Int) 0) (fun k => ?_) ?_
  · simp only [spec_Turned.l0]
    rw [if_pos (by omega), if_pos (by omega), if_pos (by rw [hl]; omega), hra, tab_length]
  have hj0 := for_ev0 (fun k (s : List (List Int)) j => spec_Turned.l1 k (nm n n M) s (i : Int) (n : Int) (i : Int) (n : Int) j) n (fun j => mat n n (fun a b => if b < i ∨ (b = i ∧ a < j) then ((M b a : Nat) : Int) else 0)) (nm n n (fun i j => M j i)) ?_ ?_
  · have e : mat n n (fun a b => if b < i ∨ (b = i ∧ a < 0) then ((M b a : Nat) : Int) else 0) = mat n n (fun a b => if b < i then ((M b a : Nat) : Int) else 0) := mat_ext _ _ _ _ fun a ha b hb => by
      by_cases e : b < i
      · rw [if_pos e, if_pos (Or.inl e)]
      · rw [if_neg e, if_neg (by omega)]
    rw [e] at hj0
    exact hj0
  · refine Ev.step (fun k => ?_) h
    simp only [spec_Turned.l1]
    rw [if_neg (by omega), wr1 i (by omega)]
    congr 1
    refine mat_ext _ _ _ _ fun a ha b hb => ?_
    by_cases e : b < i ∨ (b = i ∧ a < n)
    · rw [if_pos e, if_pos (by omega)]
    · rw [if_neg e, if_neg (by omega)]
  intro j hj h
  refine Ev.step (fun k => ?_) h
  have hda : rd (tab n (fun j => ((M i j : Nat) : Int))) (j : Int) = ((M i j : Nat) : Int) := row_at _ _ _ hj
  simp only [spec_Turned.l1]
  rw [if_pos (by omega), if_pos (by omega), if_pos (by rw [mat_length]; omega), if_pos (by omega), if_pos (by rw [hl]; omega), hra, if_pos (by rw [tab_length]; omega), if_pos (by rw [lens_of_mat _ _ _ _ hj]; omega), Int.toNat_natCast, Int.toNat_natCast, hda, mat_row _ _ _ _ hj, mat_store _ _ _ _ _ _ hj, wr1 j (by omega)]
  congr 1
  refine mat_ext _ _ _ _ fun a ha b hb => ?_
  unfold upd
  by_cases e : a = j ∧ b = i
  · rw [if_pos e, if_pos (by omega), e.1, e.2]
  · rw [if_neg e]
    show (if b < i ∨ (b = i ∧ a < j) then ((M b a : Nat) : Int) else 0) = _
    by_cases e2 : b < i ∨ (b = i ∧ a < j)
    · rw [if_pos e2, if_pos (by omega)]
    · rw [if_neg e2, if_neg (by omega)]
theorem equalBytes_ev (l : List Int) (h : l.length ≤ 1000000) : Ev (fun k => laws_equalBytes.f k l l) true := by
  unfold laws_equalBytes.f
  simp only [if_true]
  have h := all_ev0 (fun k i => laws_equalBytes.l0 k l l (l.length : Int) i) (fun _ => True) l.length true false
    (Ev.now1 fun k => by simp only [laws_equalBytes.l0]; rw [if_neg (by omega)])
    (fun i hi _ k => by
      simp only [laws_equalBytes.l0]
      rw [if_pos (by omega), if_pos (by omega), if_pos (by omega), if_pos (by omega), if_pos trivial, wr1 i (by omega)])
    (fun i hi hp => absurd trivial hp)
  rw [if_pos (fun _ _ => trivial)] at h
  exact h
end Go.Proofs.YtpeikjnkbjabpaaDoor.V
