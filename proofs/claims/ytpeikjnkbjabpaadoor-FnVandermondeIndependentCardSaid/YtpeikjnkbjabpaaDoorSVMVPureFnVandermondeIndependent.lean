import Derived.Test.YtpeikjnkbjabpaaDoorSVMVInterE
import Derived.Test.YtpeikjnkbjabpaaDoorSVMVInvE
namespace Go.Proofs.YtpeikjnkbjabpaaDoor.Pure
open Go.RowKit Go.Proofs.YtpeikjnkbjabpaaDoorW.PrintWords Go.Proofs.YtpeikjnkbjabpaaDoorW.PrintLast Go.Proofs.YtpeikjnkbjabpaaDoorW.PrintMore Go.Proofs.YtpeikjnkbjabpaaDoor.V
set_option linter.unusedVariables false
theorem byte_of (x : Int) (h : (Lit.int .u8 x).wf = true) : 0 ≤ x ∧ x < 256 := by
  simp [Lit.wf, IntKind.min, IntKind.max, IntKind.signed, IntKind.bits] at h
  omega
theorem te_of (l : List Int) (w : ∀ y ∈ l, (Lit.int .u8 y).wf = true) : ∃ x, l = te l.length x := by
  refine ⟨fun j => el (l.getD j 0).toNat, (tab_of l 0).trans (tab_ext _ _ _ fun j hj => ?_)⟩
  have e : l.getD j 0 = l[j] := by rw [List.getD_eq_getElem?_getD, List.getElem?_eq_getElem hj]; rfl
  have hb := byte_of _ (w _ (List.getElem_mem hj))
  rw [← e] at hb
  show l.getD j 0 = (((el (l.getD j 0).toNat).n : Nat) : Int)
  rw [el_n (by omega), Int.toNat_of_nonneg hb.1]
theorem vok_mat (n c : Nat) : vOk (mat n c (fun _ _ => 0)) n c = true := by
  unfold vOk
  simp only [Bool.and_eq_true, decide_eq_true_eq, List.all_eq_true]
  refine ⟨mat_length _ _ _, fun r hr => ?_⟩
  obtain ⟨i, hi, rfl⟩ := List.mem_map.1 hr
  refine ⟨tab_length _ _, fun x hx => ?_⟩
  obtain ⟨j, hj, rfl⟩ := List.mem_map.1 hx
  exact Int.le_refl 0
theorem vandermonde_ev (n : Nat) (h0 : 0 < n) (hn : n ≤ 256) : Ev (fun k => impl_Vandermonde.f k 256 (n : Int)) (nm 256 n gexp, true) := by
  unfold impl_Vandermonde.f
  simp only [if_neg (show ¬ ((256 : Int) < 1 ∨ (n : Int) < 1 ∨ (256 : Int) < 256 ∨ (256 : Int) < (n : Int)) by omega), Int.toNat_natCast]
  refine Ev.bind (newMatrix_ev 256 n (by decide) h0 (by decide) (by omega)) ?_
  have hv := vok_mat 256 n
  rw [show (256 : Int).toNat = 256 from rfl]
  simp only [hv, Option.isNone_none, and_self, if_true]
  refine Ev.bind (a := nm 256 n gexp) (rows_ev _ ?_ ?_) (Ev.now _)
  · show (nm 256 n gexp).length ≤ _
    unfold nm
    rw [mat_length]
    decide
  · intro i hi
    have hl : (nm 256 n gexp).length = 256 := mat_length _ _ _
    have hi' : i < 256 := by rw [← hl]; exact hi
    show (rd_L1 (nm 256 n gexp) (i : Int)).length ≤ _
    unfold nm
    rw [lens_of_mat _ _ _ _ hi']
    omega
theorem final_ev (n : Nat) (x : Nat → E) (h0 : 0 < n) (hn : n ≤ 16) (hd : ∀ i, i < n → ∀ j, j < n → i ≠ j → x i ≠ x j) :
    Ev (fun k => (impl_Vandermonde.f k 256 ((te n x).length : Int)).bind fun bt239 => (if bt239.2 = true then (laws_FnVandermondeIndependent.j3 k (te n x) bt239.1 ((bt239.1.length : Int) != 256)) else (laws_FnVandermondeIndependent.j3 k (te n x) bt239.1 true))) true := by
  rw [te_length]
  refine Ev.bind (vandermonde_ev n h0 (by omega)) ?_
  have hl : (nm 256 n gexp).length = 256 := mat_length _ _ _
  simp only [if_true, hl]
  refine Ev.step (f := fun k => laws_FnVandermondeIndependent.l2 k (te n x) (nm 256 n gexp) [] (te n x) (n : Int) 0) (fun k => ?_) ?_
  · simp only [laws_FnVandermondeIndependent.j3]
    rw [if_neg (by decide), te_length]
  obtain ⟨V, hV⟩ : ∃ V : Nat → Nat → Nat, V = fun i j => gexp (x i).n j := ⟨_, rfl⟩
  have hVb : Byt V := fun i j => by rw [hV]; exact gexp_lt _ _
  have hVp : ∀ i, i < n → ∀ j, j < n → toE V i j = pw (x i) j := fun i _ j _ => by
    unfold toE
    rw [hV]
    dsimp only
    rw [gexp_pw _ _ (x i).lt, el_of]
  have hdet := powers_det hVb x hVp hd
  obtain ⟨W, hWb, hinv, _, v2⟩ := (invert_square n V hVb h0 (by omega)).2 hdet
  refine for_ev0 (fun k (s : List (List Int)) i => laws_FnVandermondeIndependent.l2 k (te n x) (nm 256 n gexp) s (te n x) (n : Int) i) n (fun i => nm i n V) true ?_ ?_
  · refine Ev.step (f := fun k => (impl_Invert.f k (nm n n V)).bind fun bt251 => (if bt251.2 = true then (laws_FnVandermondeIndependent.j5 k (te n x) bt251.1 ((bt251.1.length : Int) != ((te n x).length : Int))) else (laws_FnVandermondeIndependent.j5 k (te n x) bt251.1 true))) (fun k => ?_) ?_
    · simp only [laws_FnVandermondeIndependent.l2]
      rw [if_neg (by omega)]
    refine Ev.bind hinv ?_
    have hlw : (nm n n W).length = n := mat_length _ _ _
    have hb : ((n : Int) != (n : Int)) = false := by simp
    simp only [if_true, hlw, te_length, hb]
    refine Ev.step (f := fun k => laws_FnVandermondeIndependent.l3 k (te n x) (nm n n W) (n : Int) 0) (fun k => ?_) ?_
    · simp only [laws_FnVandermondeIndependent.j5]
      rw [if_neg (by decide), te_length]
    refine for_ev0 (fun k (s : Unit) i => laws_FnVandermondeIndependent.l3 k (te n x) (nm n n W) (n : Int) i) n (fun _ => ()) true (Ev.now1 fun k => by simp only [laws_FnVandermondeIndependent.l3]; rw [if_neg (by omega)]) ?_
    intro i hi h
    have hlt : (nm n n (fun i j => W j i)).length = n := mat_length _ _ _
    have hrow : rd_L1 (nm n n (fun i j => W j i)) (i : Int) = te n (fun k => toE W k i) := (mat_row _ _ _ _ hi).trans (tab_ext _ _ _ fun j _ => by rw [to_n hWb])
    have hint := interpolate_ev n x (fun r => if r = i then 1 else 0) (by omega) hd
    rw [te_ext n (lgr x (fun r => if r = i then 1 else 0) n n) (fun k => toE W k i) fun k hk => inverse_cols (V := toE V) (W := toE W) x hVp hd v2 i hi k hk] at hint
    have heq := equalBytes_ev (te n (fun k => toE W k i)) (by rw [te_length]; omega)
    refine Ev.step (f := fun k => (spec_Turned.f k (nm n n W)).bind fun t259 => (if (i : Int) < (t259.length : Int) then ((spec_Interpolate.f k (te n x) (te n (fun r => if r = i then 1 else 0))).bind fun t263 => ((laws_equalBytes.f k (rd_L1 t259 (i : Int)) t263).bind fun t266 => (if t266 = true then (laws_FnVandermondeIndependent.l3 k (te n x) (nm n n W) (n : Int) ((i + 1 : Nat) : Int)) else (some false)))) else (none))) (fun k => ?_) ?_
    · simp only [laws_FnVandermondeIndependent.l3]
      have e1 : (te n (fun _ => 0)).set i 1 = te n (fun r => if r = i then 1 else 0) := te_set n (fun _ => 0) i 1
      rw [if_pos (by omega), te_length, if_pos (by omega), Int.toNat_natCast, if_pos (by omega), Option.bind_some, if_pos (by omega), te_zero, te_length, if_pos (by omega), Int.toNat_natCast, e1, wr1 i (by omega)]
    · refine Ev.bind (turned_ev n W h0 (by omega)) ?_
      simp only [hlt, if_pos (show (i : Int) < (n : Int) by omega), hrow]
      refine Ev.bind hint (Ev.bind heq ?_)
      simp only [if_true]
      exact h
  · intro i hi h
    refine Ev.step (fun k => ?_) h
    have hx := (x i).lt
    have hrow : rd_L1 (nm 256 n gexp) (((x i).n : Nat) : Int) = tab n (fun j => ((V i j : Nat) : Int)) := (mat_row _ _ _ _ hx).trans (by rw [hV])
    have hli : (nm i n V).length = i := mat_length _ _ _
    simp only [laws_FnVandermondeIndependent.l2]
    rw [if_pos (by omega), if_pos (by omega), if_pos (by rw [te_length]; omega), te_at n x i hi, if_pos (by omega), if_pos (by rw [hl]; omega), if_pos (by rw [hli]; omega), hrow, wr1 i (by omega)]
    congr 1
    exact tab_snoc i (fun i => tab n (fun j => ((V i j : Nat) : Int)))
theorem FnVandermondeIndependent_ev (l0 : List Int) (w : ∀ y ∈ l0, (Lit.int .u8 y).wf = true) : Ev (fun k => laws_FnVandermondeIndependent.f k l0) true := by
  have out : ∀ k, laws_FnVandermondeIndependent.j0 (k + 1) l0 true = some true := fun k => by simp only [laws_FnVandermondeIndependent.j0]; rw [if_pos trivial]
  unfold laws_FnVandermondeIndependent.f
  by_cases h1 : (l0.length : Int) > 2147483647
  · simp only [if_pos h1]
    exact Ev.now _
  simp only [if_neg h1]
  by_cases h2 : (l0.length : Int) = 0
  · simp only [if_pos h2]
    exact Ev.now1 out
  simp only [if_neg h2]
  by_cases h3 : (l0.length : Int) > 16
  · simp only [decide_eq_true h3]
    exact Ev.now1 out
  simp only [decide_eq_false h3]
  obtain ⟨x, hx⟩ := te_of l0 w
  obtain ⟨n, hn⟩ : ∃ n, n = l0.length := ⟨_, rfl⟩
  rw [← hn] at hx
  have hn0 : 0 < n := by omega
  have hn16 : n ≤ 16 := by omega
  subst hx
  refine Ev.step (f := fun k => laws_FnVandermondeIndependent.l0 k (te n x) (te n x) (n : Int) 0) (fun k => ?_) ?_
  · simp only [laws_FnVandermondeIndependent.j0]
    rw [if_neg (by decide), te_length]
  have key : ∀ d i, i + d = n → (∀ a, a < i → ∀ b, b < a → x a ≠ x b) → Ev (fun k => laws_FnVandermondeIndependent.l0 k (te n x) (te n x) (n : Int) (i : Int)) true := by
    intro d
    induction d with
    | zero =>
      intro i hi hd
      obtain rfl : i = n := by omega
      refine Ev.step (fun k => ?_) (final_ev i x hn0 hn16 fun a ha b hb hne => ?_)
      · simp only [laws_FnVandermondeIndependent.l0]
        rw [if_neg (by omega)]
      · rcases Nat.lt_or_gt_of_ne hne with h | h
        · exact fun e => hd b hb a h e.symm
        · exact hd a ha b h
    | succ d ih =>
      intro i hi hd
      have hlt : ((te n x).take i).length = i := by rw [List.length_take, te_length]; omega
      have htk : (te n x).take i = te i x := tab_take _ _ _ (by omega)
      refine Ev.step (f := fun k => laws_FnVandermondeIndependent.l1 k (te n x) (((x i).n : Nat) : Int) (te n x) (n : Int) (i : Int) (te i x) (i : Int) 0) (fun k => ?_) ?_
      · simp only [laws_FnVandermondeIndependent.l0]
        rw [if_pos (by omega), if_pos (by omega), if_pos (by rw [te_length]; omega), if_pos (by rw [te_length]; omega), te_at n x i (by omega), Int.toNat_natCast, hlt, htk]
      have inner : ∀ e j, j + e = i → (∀ b, b < j → x i ≠ x b) → Ev (fun k => laws_FnVandermondeIndependent.l1 k (te n x) (((x i).n : Nat) : Int) (te n x) (n : Int) (i : Int) (te i x) (i : Int) (j : Int)) true := by
        intro e
        induction e with
        | zero =>
          intro j hj hb
          obtain rfl : j = i := by omega
          refine Ev.step (fun k => ?_) (ih (j + 1) (by omega) fun a ha b hba => ?_)
          · simp only [laws_FnVandermondeIndependent.l1]
            rw [if_neg (by omega), wr1 j (by omega)]
          · by_cases e : a = j
            · rw [e]; exact hb b (by omega)
            · exact hd a (by omega) b hba
        | succ e ihe =>
          intro j hj hb
          by_cases heq : x i = x j
          · refine Ev.now1 fun k => ?_
            simp only [laws_FnVandermondeIndependent.l1]
            rw [if_pos (by omega), if_pos (by omega), if_pos (by rw [te_length]; omega), te_at i x j (by omega), if_pos (by rw [heq])]
          · refine Ev.step (fun k => ?_) (ihe (j + 1) (by omega) fun b hbj => ?_)
            · simp only [laws_FnVandermondeIndependent.l1]
              rw [if_pos (by omega), if_pos (by omega), if_pos (by rw [te_length]; omega), te_at i x j (by omega), if_neg (fun h => heq (E.ext (by omega))), wr1 j (by omega)]
            · by_cases e : b = j
              · rw [e]; exact heq
              · exact hb b (by omega)
      exact inner i 0 (by omega) fun b hb => by omega
  exact key n 0 (by omega) fun a ha => by omega
theorem FnVandermondeIndependent (l0 : List Int) (w0 : l0.length ≤ maxLen ∧ ∀ y ∈ l0, (Lit.int .u8 y).wf = true) : ∃ k, V.laws_FnVandermondeIndependent.f k l0 = some true :=
  (FnVandermondeIndependent_ev l0 w0.2).rounds
end Go.Proofs.YtpeikjnkbjabpaaDoor.Pure
