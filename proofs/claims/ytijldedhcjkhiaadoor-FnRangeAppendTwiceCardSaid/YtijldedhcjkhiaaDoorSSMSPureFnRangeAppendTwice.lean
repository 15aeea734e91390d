import Derived.Test.YtijldedhcjkhiaaDoorSSMSAppM
import Derived.Test.YtijldedhcjkhiaaDoorSSMSRngE
import Derived.Test.YtijldedhcjkhiaaDoorSSS8
namespace Go.Proofs.YtijldedhcjkhiaaDoor.Pure
open Go.RowKit Go.Proofs.YtijldedhcjkhiaaDoorW.PrintWords Go.Proofs.YtijldedhcjkhiaaDoorW.PrintLast Go.Proofs.YtijldedhcjkhiaaDoorW.PrintMore S Go.Proofs.YtijldedhcjkhiaaDoorM
set_option linter.unusedVariables false
theorem same_ev (l : List (List Int)) (hl : l.length ≤ 1000000) : Ev (fun k => spec_Same.f k l l) true := by
  unfold spec_Same.f
  simp only [if_pos trivial]
  refine for_ev0 (fun k (_ : Unit) i => spec_Same.l0 k l l (l.length : Int) i) l.length (fun _ => ()) _ (Ev.now1 fun k => by simp only [spec_Same.l0]; rw [if_neg (by omega)]) (fun i hi h => Ev.step (fun k => ?_) h)
  simp only [spec_Same.l0]
  rw [if_pos (by omega), if_pos (by omega), if_pos (by omega), if_pos (by omega), if_pos trivial, wr1 i (by omega)]
theorem sameV_ev (L : List S88) (h : L.length ≤ 1000000) : Ev (fun k => spec_SameVisits.f k L L) true := by
  unfold spec_SameVisits.f
  simp only [if_true]
  have h2 := for_ev0 (fun k (s : Unit) i => spec_SameVisits.l0 k L L (L.length : Int) i) L.length (fun _ => ()) true ?_ ?_
  · simpa using h2
  · refine Ev.now1 fun k => ?_
    simp only [spec_SameVisits.l0]
    rw [if_neg (by omega)]
  · intro i hi ih
    refine Ev.step (f := fun k => spec_SameVisits.l0 k L L (L.length : Int) ((i + 1 : Nat) : Int)) (fun k => ?_) ih
    simp only [spec_SameVisits.l0]
    rw [if_pos (by omega), if_pos (by omega), if_pos (by omega), if_pos (by omega), if_neg (by simp), if_pos trivial, wr1 i (by omega)]
theorem sameRange_ev (b e : Int) (l : List (List Int)) (hl : l.length ≤ 1000000) : Ev (fun k => spec_SameRange.f k b e l b e l) true := by
  unfold spec_SameRange.f
  simp only [if_true]
  exact Ev.bind (same_ev l hl) (Ev.now _)
theorem room_ev (b e : Nat) (h64 : e < 18446744073709551616) (r l : List (List Int)) (hl : l.length < 1000000000000000000) : ∃ s, Ev (fun k => laws_rangeRoom.f k (b : Int) (e : Int) r l) s ∧ (s = true → (∀ x ∈ l, x.length ≤ 5000) ∧ l.length ≤ 300 ∧ e + l.length < 18446744073709551616) := by
  obtain ⟨s, h1, h2⟩ := small_ev l hl
  unfold laws_rangeRoom.f
  cases s with
  | false => exact ⟨false, Ev.bind h1 (Ev.now _), fun h => by cases h⟩
  | true =>
    obtain ⟨h3, h4⟩ := h2 rfl
    by_cases h5 : e + l.length < 18446744073709551616
    · exact ⟨_, Ev.bind h1 (Ev.now _), fun _ => ⟨h3, h4, h5⟩⟩
    · refine ⟨_, Ev.bind h1 (Ev.now _), fun h => absurd (of_decide_eq_true h) ?_⟩
      rw [u64_small _ (show l.length < 18446744073709551616 by omega), show (e : Int) + (l.length : Int) = ((e + l.length : Nat) : Int) by omega, u64_wrap_nat]
      omega
theorem Ev.uniq {α : Type} {g : Nat → Option α} {r s : α} (h : Ev g r) (k : Ev g s) : r = s := by
  obtain ⟨K, h⟩ := h
  obtain ⟨L, k⟩ := k
  exact Option.some.inj ((h (K + L) (by omega)).symm.trans (k (K + L) (by omega)))
theorem core (h : Hs) (b e : Nat) (l l2 l3 : List (List Int)) (hbe : b ≤ e) (he : e + l2.length + l3.length < 18446744073709551616) (t : List Nd) (R : Row b e t) (hlt : l.length = t.length) (w1 : wt l ≤ 1502700) (w2 : wt l2 ≤ 1502700) (w3 : wt l3 ≤ 1502700) (hn : l2.length + l3.length ≤ 300) :
    Ev (fun k => laws_FnRangeAppendTwice.j1 k l2 l3 (l2 ++ l3) false h.k h.s h.b h.e h.l h.n (b : Int) (e : Int) l) true := by
  obtain ⟨tA, TA, VA, RA, lA, wA, vA, evA0, evA⟩ := append_ev h b e l l2 hbe (by omega) t R hlt (by omega) (by omega)
  obtain ⟨tB, TB, VB, RB, lB, wB, vB, evB0, evB⟩ := append_ev h b (e + l2.length) TA l3 (by omega) (by omega) tA RA lA (by omega) (by omega)
  have w23 : wt (l2 ++ l3) = wt l2 + wt l3 := wt_append _ _
  have h23 : (l2 ++ l3).length = l2.length + l3.length := List.length_append
  obtain ⟨tC, TC, VC, RC, lC, wC, vC, evC0, evC⟩ := append_ev h b e l (l2 ++ l3) hbe (by omega) t R hlt (by omega) (by omega)
  have hC := evC0 [] (by simp; omega)
  have hAB : Ev (fun k => appN k h.k h.s h.b h.e h.l h.n (b : Int) (l2 ++ l3) e l []) (TB, [] ++ VA ++ VB) := by
    refine Ev.congr (fun k => appN_append k _ _ _ _ _ _ _ l3 l2 e l []) ?_
    exact Ev.bind (evA0 [] (by simp; omega)) (evB0 _ (by simp; omega))
  have hu := Ev.uniq hC hAB
  simp only [List.nil_append, Prod.mk.injEq] at hu
  obtain ⟨rfl, rfl⟩ := hu
  have hS := sameRange_ev (b : Int) ((e + (l2 ++ l3).length : Nat) : Int) TC (by have := RC.len; omega)
  have hV := sameV_ev (VA ++ VB) (by rw [List.length_append]; omega)
  have c1 : ([] : List S88).length + VA.length < 3518437208883 := by rw [List.length_nil]; omega
  have c2 : ([] ++ VA : List S88).length + VB.length < 3518437208883 := by rw [List.nil_append]; omega
  obtain ⟨K1, k1⟩ := evC
  obtain ⟨K2, k2⟩ := evA
  obtain ⟨K3, k3⟩ := evB
  obtain ⟨K4, k4⟩ := hS
  obtain ⟨K5, k5⟩ := hV
  have hsz : e + l2.length + l3.length = e + (l2 ++ l3).length := by omega
  dsimp only at k1 k2 k3 k4 k5
  rw [hsz] at k3
  refine ⟨K1 + K2 + K3 + K4 + K5 + 1, fun k hk => ?_⟩
  obtain ⟨k, rfl⟩ : ∃ m, k = m + 1 := ⟨k - 1, by omega⟩
  simp only [laws_FnRangeAppendTwice.j1]
  rw [if_neg (by decide), k1 k (by omega), Option.bind_some, k2 k (by omega), Option.bind_some]
  dsimp only
  rw [k3 k (by omega), Option.bind_some]
  dsimp only
  rw [if_pos rfl, if_pos rfl, if_pos rfl, k4 k (by omega), Option.bind_some, if_pos rfl, Option.bind_some, if_pos c1, Option.bind_some, if_pos c2]
  simp only [List.nil_append]
  rw [k5 k (by omega)]
  rfl
theorem FnRangeAppendTwice_ev (h : Hs) (b e : Nat) (hb64 : b < 18446744073709551616) (h64 : e < 18446744073709551616) (l l2 l3 : List (List Int)) : Ev (fun k => laws_FnRangeAppendTwice.f k h.k h.s h.b h.e h.l h.n (b : Int) (e : Int) l l2 l3) true := by
  unfold laws_FnRangeAppendTwice.f laws_zzFits7.f
  have hj0 : Ev (fun k => laws_FnRangeAppendTwice.j0 k l2 l3 true h.k h.s h.b h.e h.l h.n (b : Int) (e : Int) l) true := Ev.now1 fun k => by simp only [laws_FnRangeAppendTwice.j0]; first | (rw [if_pos rfl]) | (rw [if_pos trivial])
  obtain ⟨f, hf, hf2⟩ := fits2_ev l
  cases f with
  | false => exact Ev.bind (a := false) (Ev.bind hf (Ev.now _)) hj0
  | true =>
  refine Ev.bind (a := true) (Ev.bind hf (Ev.now _)) ?_
  simp only [if_true]
  obtain ⟨f2, hg, hg2⟩ := fits2_ev l2
  refine Ev.bind hg ?_
  cases f2 with
  | false => exact hj0
  | true =>
  simp only [if_true]
  obtain ⟨f3, hk, hk2⟩ := fits2_ev l3
  refine Ev.bind hk ?_
  cases f3 with
  | false => exact hj0
  | true =>
  obtain ⟨r, hr, hr2⟩ := fair_ev b e h64 l (hf2 rfl).1
  have hl2 := (hg2 rfl).1
  have hl3 := (hk2 rfl).1
  have c1 : ([] : List (List Int)).length + l2.length < 5864062014805 := by rw [List.length_nil]; omega
  have c2 : ([] ++ l2 : List (List Int)).length + l3.length < 5864062014805 := by rw [List.nil_append]; omega
  have hj1 : Ev (fun k => laws_FnRangeAppendTwice.j1 k l2 l3 (l2 ++ l3) true h.k h.s h.b h.e h.l h.n (b : Int) (e : Int) l) true := Ev.now1 fun k => by simp only [laws_FnRangeAppendTwice.j1]; first | (rw [if_pos rfl]) | (rw [if_pos trivial])
  refine Ev.step (f := fun k => (laws_rangeFair.f k (b : Int) (e : Int) l).bind fun t199 => (if t199 = true then ((laws_rangeRoom.f k (b : Int) (e : Int) l (l2 ++ l3)).bind fun t200 => (laws_FnRangeAppendTwice.j1 k l2 l3 (l2 ++ l3) (!t200) h.k h.s h.b h.e h.l h.n (b : Int) (e : Int) l)) else (laws_FnRangeAppendTwice.j1 k l2 l3 (l2 ++ l3) true h.k h.s h.b h.e h.l h.n (b : Int) (e : Int) l))) (fun k => ?_) ?_
  · simp only [Bool.not_true, laws_FnRangeAppendTwice.j0, Option.bind_some, if_pos c1, if_pos c2]
    simp only [List.nil_append]
    rfl
  refine Ev.bind hr ?_
  cases r with
  | false => exact hj1
  | true =>
  simp only [if_true]
  obtain ⟨hbe, ⟨t, R, hlt⟩, hx, hl300⟩ := hr2 rfl
  have hl23 : (l2 ++ l3).length < 1000000000000000000 := by rw [List.length_append]; omega
  obtain ⟨r2, hq, hq2⟩ := room_ev b e h64 l (l2 ++ l3) hl23
  refine Ev.bind hq ?_
  cases r2 with
  | false => exact hj1
  | true =>
  obtain ⟨hx2, hn2, he2⟩ := hq2 rfl
  rw [List.length_append] at hn2 he2
  have w1 : wt l ≤ 1502700 := Nat.le_trans (wt_small l 5000 hx) (by omega)
  have w2 : wt l2 ≤ 1502700 := Nat.le_trans (wt_small l2 5000 (fun x hx' => hx2 x (by simp [hx']))) (by omega)
  have w3 : wt l3 ≤ 1502700 := Nat.le_trans (wt_small l3 5000 (fun x hx' => hx2 x (by simp [hx']))) (by omega)
  exact core h b e l l2 l3 hbe (by omega) t R hlt w1 w2 w3 (by omega)
theorem FnRangeAppendTwice (a0_0 : Int) (a0_1 : Int) (a0_2 : Int) (a0_3 : Int) (a0_4 : Int) (a0_5 : Int) (w0 : ((Lit.int .i64 a0_0).wf = true) ∧ ((Lit.int .i64 a0_1).wf = true) ∧ ((Lit.int .i64 a0_2).wf = true) ∧ ((Lit.int .u64 a0_3).wf = true) ∧ ((Lit.int .u64 a0_4).wf = true) ∧ ((Lit.int .u64 a0_5).wf = true)) (a1_0 : Int) (a1_1 : Int) (l1_2 : List (List Int)) (w1 : ((Lit.int .u64 a1_0).wf = true) ∧ ((Lit.int .u64 a1_1).wf = true) ∧ (l1_2.length ≤ maxLen ∧ ∀ y ∈ l1_2, y.length ≤ maxLen ∧ ∀ y' ∈ y, (Lit.int .u8 y').wf = true)) (l2 : List (List Int)) (w2 : l2.length ≤ maxLen ∧ ∀ y ∈ l2, y.length ≤ maxLen ∧ ∀ y' ∈ y, (Lit.int .u8 y').wf = true) (l3 : List (List Int)) (w3 : l3.length ≤ maxLen ∧ ∀ y ∈ l3, y.length ≤ maxLen ∧ ∀ y' ∈ y, (Lit.int .u8 y').wf = true) : ∃ k, S.laws_FnRangeAppendTwice.f k a0_0 a0_1 a0_2 a0_3 a0_4 a0_5 a1_0 a1_1 l1_2 l2 l3 = some true := by
  obtain ⟨b, rfl, hb⟩ := u64_nat a1_0 w1.1
  obtain ⟨e, rfl, he⟩ := u64_nat a1_1 w1.2.1
  exact (FnRangeAppendTwice_ev ⟨a0_0, a0_1, a0_2, a0_3, a0_4, a0_5⟩ b e hb he l1_2 l2 l3).rounds
end Go.Proofs.YtijldedhcjkhiaaDoor.Pure
