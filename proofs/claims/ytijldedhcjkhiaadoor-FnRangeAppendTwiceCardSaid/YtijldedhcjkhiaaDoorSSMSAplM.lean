import Derived.Test.YtijldedhcjkhiaaDoorSSMSMrg
import Derived.Test.YtijldedhcjkhiaaDoorSSMSPak
import Derived.Test.YtijldedhcjkhiaaDoorSSMSHashS
import Derived.Test.YtijldedhcjkhiaaDoorSSS7
namespace Go.Proofs.YtijldedhcjkhiaaDoor.Pure
open Go.RowKit Go.Proofs.YtijldedhcjkhiaaDoorW.PrintWords Go.Proofs.YtijldedhcjkhiaaDoorW.PrintLast Go.Proofs.YtijldedhcjkhiaaDoorW.PrintMore S Go.Proofs.YtijldedhcjkhiaaDoorM
set_option linter.unusedVariables false
theorem hash_ev (h : Hs) (l r : List Int) (hl : l.length + r.length < 100000000000) : Ev (fun k => impl_toy_HashChildren.f k h.k h.s h.b h.e h.l h.n l r) (H h l r) := ⟨l.length + r.length + 31, fun k hk => hash_eq h l r k hl (by omega)⟩
def wt (l : List (List Int)) : Nat := (l.map fun x => x.length + 9).sum
theorem wt_nil : wt [] = 0 := rfl
theorem wt_cons (x : List Int) (l : List (List Int)) : wt (x :: l) = x.length + 9 + wt l := by simp [wt]
theorem wt_append (l m : List (List Int)) : wt (l ++ m) = wt l + wt m := by simp [wt]
theorem wt_one (x : List Int) : wt [x] = x.length + 9 := by simp [wt]
theorem wt_mem {l : List (List Int)} {x : List Int} (h : x ∈ l) : x.length + 9 ≤ wt l := by
  induction l with
  | nil => cases h
  | cons y l ih =>
    rw [wt_cons]
    rcases List.mem_cons.1 h with rfl | h
    · omega
    · have := ih h; omega
theorem wt_len (l : List (List Int)) : 9 * l.length ≤ wt l := by
  induction l with
  | nil => simp [wt]
  | cons y l ih => rw [wt_cons, List.length_cons]; omega
theorem wt_small (l : List (List Int)) (n : Nat) (h : ∀ x ∈ l, x.length ≤ n) : wt l ≤ (n + 9) * l.length := by
  induction l with
  | nil => simp [wt]
  | cons y l ih =>
    have h1 := h y (by simp)
    have h2 := ih (fun x hx => h x (by simp [hx]))
    rw [wt_cons, List.length_cons, Nat.mul_add, Nat.mul_one]
    omega
theorem take_last {α : Type} {S s' : List α} {n z : α} {i : Nat} (hi : i ≤ S.length) (h : S.take i = s' ++ [n]) : i = s'.length + 1 ∧ S.take s'.length = s' ∧ S.getD s'.length z = n := by
  have hl : (S.take i).length = s'.length + 1 := by rw [h]; simp
  rw [List.length_take] at hl
  have hi' : i = s'.length + 1 := by omega
  subst hi'
  have hlt : s'.length < S.length := by omega
  rw [List.take_add_one, List.getElem?_eq_getElem hlt] at h
  have h2 := List.append_inj h (by rw [List.length_take]; omega)
  refine ⟨rfl, h2.1, ?_⟩
  have h3 := h2.2
  simp at h3
  rw [List.getD_eq_getElem?_getD, List.getElem?_eq_getElem hlt]
  exact h3
theorem drop_head {α : Type} {T t' : List α} {n z : α} {i : Nat} (h : T.drop i = n :: t') : i < T.length ∧ T.drop (i + 1) = t' ∧ T.getD i z = n := by
  have hl : (T.drop i).length = t'.length + 1 := by rw [h]; simp
  rw [List.length_drop] at hl
  have hlt : i < T.length := by omega
  rw [List.drop_eq_getElem_cons hlt] at h
  injection h with h1 h2
  exact ⟨hlt, h2, by rw [List.getD_eq_getElem?_getD, List.getElem?_eq_getElem hlt]; exact h1⟩
theorem getD_map {α β : Type} (f : α → β) (S : List α) (i : Nat) (z : α) (w : β) (h : i < S.length) : (S.map f).getD i w = f (S.getD i z) := by
  simp [List.getD_eq_getElem?_getD, h]
def vis (hf : Nd → List Int) (m : Nat) : Nat → Nat → List S88
  | 0, _ => []
  | d + 1, hh => ⟨⟨((hh + 1 : Nat) : Int), ((m / 2 ^ (hh + 1) : Nat) : Int)⟩, hf (hh + 1, m / 2 ^ (hh + 1))⟩ :: vis hf m d (hh + 1)
theorem vis_length (hf : Nd → List Int) (m : Nat) : ∀ d hh, (vis hf m d hh).length = d
  | 0, _ => rfl
  | d + 1, hh => by simp [vis, vis_length hf m d]
theorem apl_ev (h : Hs) (hf : Nd → List Int) {b m e : Nat} (S T : List Nd) : ∀ (d hh i1 i2 : Nat), i1 ≤ S.length → i2 ≤ T.length → Til (m / 2 ^ hh * 2 ^ hh) b (S.take i1) → SF (S.take i1) → Til e ((m / 2 ^ hh + 1) * 2 ^ hh) (T.drop i2) → SF (T.drop i2) → (0 < d → Ins b m e (hh + d)) →
    (∀ j, hh ≤ j → j < hh + d → hf (j + 1, m / 2 ^ (j + 1)) = H h (hf (j, 2 * (m / 2 ^ (j + 1)))) (hf (j, 2 * (m / 2 ^ (j + 1)) + 1))) → wt ((S.take i1).map hf) + (hf (hh, m / 2 ^ hh)).length + 9 + wt ((T.drop i2).map hf) ≤ 1000000000 →
    pop d (m / 2 ^ hh) ≤ i1 ∧ i2 + (d - pop d (m / 2 ^ hh)) ≤ T.length ∧ wt ((S.take (i1 - pop d (m / 2 ^ hh))).map hf) + (hf (hh + d, m / 2 ^ (hh + d))).length + 9 + wt ((T.drop (i2 + (d - pop d (m / 2 ^ hh)))).map hf) ≤ wt ((S.take i1).map hf) + (hf (hh, m / 2 ^ hh)).length + 9 + wt ((T.drop i2).map hf) ∧
      ∀ L, Ev (fun k => apl k h.k h.s h.b h.e h.l h.n (S.map hf) (T.map hf) d hh i1 i2 (m / 2 ^ hh) (hf (hh, m / 2 ^ hh)) L) (hf (hh + d, m / 2 ^ (hh + d)), i1 - pop d (m / 2 ^ hh), i2 + (d - pop d (m / 2 ^ hh)), L ++ vis hf m d hh)
  | 0, hh, i1, i2, h1, h2, _, _, _, _, _, _, _ => by
    simp only [pop, Nat.sub_zero, Nat.add_zero, vis, List.append_nil, apl, Nat.zero_le, true_and]
    exact ⟨h2, Nat.le_refl _, fun L => Ev.now _⟩
  | d + 1, hh, i1, i2, h1, h2, h3, h4, h5, h6, h7, h8, h9 => by
    have hI : Ins b m e (hh + 1) := Ins.downs (hh + 1) d (by rw [show hh + 1 + d = hh + (d + 1) by omega]; exact h7 (by omega))
    have hx : m / 2 ^ hh / 2 = m / 2 ^ (hh + 1) := (half m hh).symm
    have hple := pop_le d (m / 2 ^ (hh + 1))
    have IH := apl_ev h hf (b := b) (m := m) (e := e) S T d (hh + 1)
    rw [show hh + 1 + d = hh + (d + 1) by omega] at IH
    have hhf := h8 hh (Nat.le_refl _) (by omega)
    have hHl := H_length h (hf (hh, 2 * (m / 2 ^ (hh + 1)))) (hf (hh, 2 * (m / 2 ^ (hh + 1)) + 1))
    rw [← hhf] at hHl
    rcases Nat.mod_two_eq_zero_or_one (m / 2 ^ hh) with ho | ho
    · obtain ⟨t', ht', g1, g2, g3⟩ := step_even hI ho h5 h6
      obtain ⟨hlt, hd1, hg⟩ := drop_head (z := (0, 0)) ht'
      rw [ht', List.map_cons, wt_cons, g3] at h9
      rw [ht'] at h6
      have g := IH i1 (i2 + 1) h1 (by omega) (by rw [← g2]; exact h3) h4 (by rw [hd1]; exact g1) (by rw [hd1]; exact SF.right (s := [_]) h6) (fun _ => h7 (by omega)) (fun j hj hj2 => h8 j (by omega) (by omega)) (by rw [hd1]; omega)
      obtain ⟨a1, a2, a3, a4⟩ := g
      rw [hd1] at a3
      simp only [pop, ho, hx, Nat.zero_add]
      rw [show d + 1 - pop d (m / 2 ^ (hh + 1)) = d - pop d (m / 2 ^ (hh + 1)) + 1 by omega]
      refine ⟨a1, by omega, ?_, fun L => ?_⟩
      · rw [ht', List.map_cons, wt_cons, g3, show i2 + (d - pop d (m / 2 ^ (hh + 1)) + 1) = i2 + 1 + (d - pop d (m / 2 ^ (hh + 1))) by omega]
        omega
      · have a5 := a4 (L ++ [⟨⟨((hh + 1 : Nat) : Int), ((m / 2 ^ (hh + 1) : Nat) : Int)⟩, hf (hh + 1, m / 2 ^ (hh + 1))⟩])
        rw [List.append_assoc] at a5
        simp only [apl, if_pos ho, List.length_map, if_pos hlt, getD_map hf T i2 (0, 0) [] hlt, hg, hx]
        refine Ev.bind (a := hf (hh + 1, m / 2 ^ (hh + 1))) ?_ ?_
        · rw [hhf, g3]
          exact hash_ev h _ _ (by omega)
        · simp only [if_pos (show (hf (hh + 1, m / 2 ^ (hh + 1))).length < 140737488355328 from Nat.lt_of_le_of_lt (show _ ≤ 2000000000 by omega) (by decide))]
          rw [show i2 + (d - pop d (m / 2 ^ (hh + 1)) + 1) = i2 + 1 + (d - pop d (m / 2 ^ (hh + 1))) by omega]
          exact a5
    · obtain ⟨s', hs', g1, g2, g3, g4⟩ := step_odd hI ho h3 h4
      obtain ⟨hi1, hd1, hg⟩ := take_last (z := (0, 0)) h1 hs'
      subst hi1
      rw [hs', List.map_append, wt_append, List.map_cons, List.map_nil, wt_one, g3, g4] at h9
      rw [hs'] at h4
      have g := IH s'.length i2 (by omega) h2 (by rw [hd1]; exact g1) (by rw [hd1]; exact h4.left) (by rw [← g2]; exact h5) h6 (fun _ => h7 (by omega)) (fun j hj hj2 => h8 j (by omega) (by omega)) (by rw [hd1]; omega)
      obtain ⟨a1, a2, a3, a4⟩ := g
      rw [hd1] at a3
      simp only [pop, ho, hx]
      rw [show d + 1 - (1 + pop d (m / 2 ^ (hh + 1))) = d - pop d (m / 2 ^ (hh + 1)) by omega, show s'.length + 1 - (1 + pop d (m / 2 ^ (hh + 1))) = s'.length - pop d (m / 2 ^ (hh + 1)) by omega]
      refine ⟨by omega, a2, ?_, fun L => ?_⟩
      · rw [hs', List.map_append, wt_append, List.map_cons, List.map_nil, wt_one, g3, g4]
        omega
      · have a5 := a4 (L ++ [⟨⟨((hh + 1 : Nat) : Int), ((m / 2 ^ (hh + 1) : Nat) : Int)⟩, hf (hh + 1, m / 2 ^ (hh + 1))⟩])
        rw [List.append_assoc] at a5
        have hodd : ¬ m / 2 ^ hh % 2 = 0 := by omega
        simp only [apl, if_neg hodd, List.length_map, Nat.add_sub_cancel, if_pos (show 0 < s'.length + 1 ∧ s'.length + 1 ≤ S.length from ⟨by omega, h1⟩), getD_map hf S s'.length (0, 0) [] (by omega), hg, hx]
        refine Ev.bind (a := hf (hh + 1, m / 2 ^ (hh + 1))) ?_ ?_
        · rw [hhf, g3, g4]
          exact hash_ev h _ _ (by omega)
        · simp only [if_pos (show (hf (hh + 1, m / 2 ^ (hh + 1))).length < 140737488355328 from Nat.lt_of_le_of_lt (show _ ≤ 2000000000 by omega) (by decide))]
          exact a5
def hfOf (h : Hs) (tbl : List (Nd × List Int)) : Nat → Nat → List Int
  | 0, i => ((tbl.find? fun p => p.1 == (0, i)).map Prod.snd).getD []
  | l + 1, i => match tbl.find? fun p => p.1 == (l + 1, i) with
    | some p => p.2
    | none => H h (hfOf h tbl l (2 * i)) (hfOf h tbl l (2 * i + 1))
theorem hfOf_mem (h : Hs) (tbl : List (Nd × List Int)) (hn : (tbl.map Prod.fst).Nodup) (p : Nd × List Int) (hp : p ∈ tbl) : hfOf h tbl p.1.1 p.1.2 = p.2 := by
  have hf : tbl.find? (fun q => q.1 == (p.1.1, p.1.2)) = some p := by
    induction tbl with
    | nil => cases hp
    | cons q tbl ih =>
      rw [List.map_cons, List.nodup_cons] at hn
      rcases List.mem_cons.1 hp with rfl | hp
      · simp
      · have hne : ¬ q.1 = p.1 := fun he => hn.1 (by rw [he]; exact List.mem_map_of_mem hp)
        rw [List.find?_cons_of_neg (by simpa using hne)]
        exact ih hn.2 hp
  obtain ⟨⟨l, i⟩, x⟩ := p
  cases l with
  | zero => simp only [hfOf]; rw [hf]; rfl
  | succ l => simp only [hfOf]; rw [hf]
theorem hfOf_not (h : Hs) (tbl : List (Nd × List Int)) (l i : Nat) (hn : (l + 1, i) ∉ tbl.map Prod.fst) : hfOf h tbl (l + 1) i = H h (hfOf h tbl l (2 * i)) (hfOf h tbl l (2 * i + 1)) := by
  have hf : tbl.find? (fun q => q.1 == (l + 1, i)) = none := by
    rw [List.find?_eq_none]
    intro q hq he
    exact hn (by rw [show (l + 1, i) = q.1 from (eq_of_beq he).symm]; exact List.mem_map_of_mem hq)
  simp only [hfOf]
  rw [hf]
theorem exists_hf (h : Hs) (S : List Nd) (HS : List (List Int)) (hl : HS.length = S.length) (hn : S.Nodup) : ∃ hf : Nd → List Int, S.map hf = HS ∧ ∀ l i, (l + 1, i) ∉ S → hf (l + 1, i) = H h (hf (l, 2 * i)) (hf (l, 2 * i + 1)) := by
  have h1 : (S.zip HS).map Prod.fst = S := List.map_fst_zip (by omega)
  refine ⟨fun n => hfOf h (S.zip HS) n.1 n.2, ?_, fun l i hni => hfOf_not h _ l i (by rw [h1]; exact hni)⟩
  have h2 : (S.zip HS).map Prod.snd = HS := List.map_snd_zip (by omega)
  have h3 : (S.zip HS).map (fun p => hfOf h (S.zip HS) p.1.1 p.1.2) = (S.zip HS).map Prod.snd := List.map_congr_left fun p hp => hfOf_mem h _ (by rw [h1]; exact hn) p hp
  rw [h2] at h3
  have h4 : ((S.zip HS).map Prod.fst).map (fun n : Nd => hfOf h (S.zip HS) n.1 n.2) = (S.zip HS).map (fun p => hfOf h (S.zip HS) p.1.1 p.1.2) := by rw [List.map_map]; rfl
  rw [h1] at h4
  exact h4.trans h3
theorem til_nodup {b e : Nat} {t : List Nd} (h : Til e b t) : t.Nodup := by
  have hp := h.pak.2
  refine hp.imp ?_
  intro n m ha he
  subst he
  have h1 := nhi_eq n
  have h2 := two_pow_pos n.1
  rcases ha with ha | ha <;> omega
end Go.Proofs.YtijldedhcjkhiaaDoor.Pure
