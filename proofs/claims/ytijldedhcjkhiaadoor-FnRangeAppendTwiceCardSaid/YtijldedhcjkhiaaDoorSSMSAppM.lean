import Derived.Test.YtijldedhcjkhiaaDoorSSMSAplM
import Derived.Test.YtijldedhcjkhiaaDoorSSMSPathM
import Derived.Test.YtijldedhcjkhiaaDoorSSS7
namespace Go.Proofs.YtijldedhcjkhiaaDoor.Pure
open Go.RowKit Go.Proofs.YtijldedhcjkhiaaDoorW.PrintWords Go.Proofs.YtijldedhcjkhiaaDoorW.PrintLast Go.Proofs.YtijldedhcjkhiaaDoorW.PrintMore S Go.Proofs.YtijldedhcjkhiaaDoorM
set_option linter.unusedVariables false
theorem row_of {b e : Nat} {t : List Nd} (h : b ≤ e) (h64 : e < 18446744073709551616) (h1 : Til e b t) (h2 : SF t) : Row b e t := by
  obtain ⟨s, R, _⟩ := range_row b e h h64
  rw [uniq h1 h2 R.til R.sf]
  exact R
theorem texts_ev (l : List (List Int)) (hl : l.length < 1000000000000) (hx : ∀ x ∈ l, x.length < 100000000000) : Ev (fun k => impl_texts.f k l) l := ⟨l.length + 1, fun k hk => texts_eq l k hl hx (by omega)⟩
theorem app1_ev (h : Hs) (hf : Nd → List Int) (b m : Nat) (hbm : b ≤ m) (h64 : m + 1 < 18446744073709551616) (t : List Nd) (R : Row b m t)
    (hlaw : ∀ j, j < 64 → Ins b m (m + 1) (j + 1) → hf (j + 1, m / 2 ^ (j + 1)) = H h (hf (j, 2 * (m / 2 ^ (j + 1)))) (hf (j, 2 * (m / 2 ^ (j + 1)) + 1))) (hw : wt (t.map hf) + (hf (0, m)).length + 9 ≤ 1000000000) :
    ∃ (t1 : List Nd) (d : Nat), Row b (m + 1) t1 ∧ wt (t1.map hf) ≤ wt (t.map hf) + (hf (0, m)).length + 9 ∧ d ≤ 64 ∧ (∀ n, 0 < n → n ≤ 64 → (Ins b m (m + 1) n ↔ n ≤ d)) ∧
      ∀ L : List S88, L.length < 800000 → Ev (fun k => app1 k h.k h.s h.b h.e h.l h.n (b : Int) m (t.map hf) (hf (0, m)) L) (t1.map hf, L ++ (⟨⟨0, (m : Int)⟩, hf (0, m)⟩ :: vis hf m d 0)) := by
  obtain ⟨lo, hi, hp, hlo, hhi, hc, hI⟩ := path_of b m (m + 1) hbm (by omega) (by omega) (by omega)
  have hp' : compact_getMergePath.f (b : Int) (m : Int) ((m : Int) + 1) = some ((lo : Int), (hi : Int)) := hp
  have hR := R.len
  obtain ⟨d, hd⟩ : ∃ d, d = (if hi < lo then lo else hi) - lo := ⟨_, rfl⟩
  -- the levels at which trees merge
  have hlev : d < 64 ∧ (m % 2 = 1 → lo = 0) ∧ (m % 2 = 0 → d = 0) ∧ (∀ n, 0 < n → n ≤ 64 → (Ins b m (m + 1) n ↔ n ≤ d)) ∧ ¬ Ins b m (m + 1) (d + 1) := by
    rcases hc with ⟨h1, h2⟩ | ⟨h1, h2, u, hu⟩
    · have hev : m % 2 = 0 := by omega
      have hd0 : d = 0 := by rw [hd]; split <;> omega
      refine ⟨by omega, fun h => by omega, fun _ => hd0, fun n hn _ => ⟨fun h => absurd h (ins_even b m n hn hev), fun h => by omega⟩, by rw [hd0]; exact ins_even b m 1 (by omega) hev⟩
    · rcases Nat.eq_zero_or_pos lo with hl0 | hl0
      · have hodd : m % 2 = 1 := by rw [hl0, Nat.pow_zero] at hu; omega
        have hdh : d = hi := by rw [hd, hl0]; split <;> omega
        refine ⟨by omega, fun _ => hl0, fun h => by omega, fun n hn hn2 => by rw [hdh]; exact hI n (by omega) hn2, ?_⟩
        rw [hdh]
        intro h
        have := (hI (hi + 1) (by omega) (by omega)).1 h
        omega
      · have hev : m % 2 = 0 := by
          obtain ⟨l, rfl⟩ : ∃ l, lo = l + 1 := ⟨lo - 1, by omega⟩
          rw [hu, pow_add_two, Nat.mul_assoc, Nat.mul_mod_right]
        have hd0 : d = 0 := by
          rw [hd]
          split
          · omega
          · rename_i h
            rcases Nat.lt_or_ge lo hi with h3 | h3
            · exact absurd ((hI (lo + 1) (by omega) (by omega)).2 (by omega)) (ins_even b m _ (by omega) hev)
            · omega
        refine ⟨by omega, fun h => by omega, fun _ => hd0, fun n hn _ => ⟨fun h => absurd h (ins_even b m n hn hev), fun h => by omega⟩, by rw [hd0]; exact ins_even b m 1 (by omega) hev⟩
  obtain ⟨hd64, hlo1, hd1, hIns, hIend⟩ := hlev
  have hm0 : m / 2 ^ 0 = m := by rw [Nat.pow_zero, Nat.div_one]
  have hT0 : Til (m / 2 ^ 0 * 2 ^ 0) b t := by rw [hm0, Nat.pow_zero, Nat.mul_one]; exact R.til
  have hT1 : Til (m + 1) ((m / 2 ^ 0 + 1) * 2 ^ 0) [] := by rw [hm0, Nat.pow_zero, Nat.mul_one]; rfl
  have hId : 0 < d → Ins b m (m + 1) (0 + d) := fun h => by rw [Nat.zero_add]; exact (hIns d h (by omega)).2 (Nat.le_refl _)
  obtain ⟨g1, g2, g3, g4⟩ := merged d 0 t [] hT0 R.sf hT1 trivial hId (by rw [Nat.zero_add]; exact hIend)
  rw [hm0, Nat.zero_add] at g3 g4
  rw [hm0] at g1 g2
  simp only [List.drop_nil] at g3 g4
  have hap := apl_ev h hf (b := b) (m := m) (e := m + 1) t [] d 0 t.length 0 (Nat.le_refl _) (Nat.le_refl _) (by rw [List.take_length]; exact hT0) (by rw [List.take_length]; exact R.sf) hT1 trivial hId
    (fun j _ hj => hlaw j (by omega) ((hIns (j + 1) (by omega) (by omega)).2 (by omega))) (by rw [List.take_length, hm0]; simpa [wt] using hw)
  rw [hm0, List.take_length] at hap
  simp only [Nat.zero_add, List.drop_nil, List.map_nil, wt_nil, Nat.add_zero] at hap
  obtain ⟨a1, a2, a3, a4⟩ := hap
  refine ⟨_, d, row_of (by omega) h64 g3 g4, ?_, by omega, hIns, fun L hL => ?_⟩
  · rw [List.map_append, wt_append, List.map_cons, List.map_nil, wt_one]
    omega
  · have hx47 : (hf (0, m)).length < 140737488355328 := Nat.lt_of_le_of_lt (show _ ≤ 1000000000 by omega) (by decide)
    have hcond : ((0 : Int) ≤ (lo : Int) ∧ (lo : Int) ≤ 64 ∧ (0 : Int) ≤ (hi : Int) ∧ (hi : Int) ≤ 64) ∧ m + 1 < 18446744073709551616 ∧ t.length ≤ 1000000 ∧ L.length < 800000 ∧ (hf (0, m)).length < 140737488355328 := ⟨⟨by omega, by omega, by omega, by omega⟩, h64, by omega, hL, hx47⟩
    have hxl : m / 2 ^ lo < 18446744073709551616 := Nat.lt_of_le_of_lt (Nat.div_le_self _ _) (by omega)
    have ho := ones_mask (m / 2 ^ lo) d hxl (by omega)
    have hpp : pop d (m / 2 ^ lo) = pop d m := by
      rcases Nat.mod_two_eq_zero_or_one m with h | h
      · rw [hd1 h]; rfl
      · rw [hlo1 h, Nat.pow_zero, Nat.div_one]
    rw [hpp] at ho
    have hcond2 : (0 : Int) ≤ ((pop d m : Nat) : Int) ∧ pop d m ≤ t.length ∧ d ≤ pop d m := ⟨by omega, g1, by simp at g2; omega⟩
    have hsame : ∀ k, apl k h.k h.s h.b h.e h.l h.n (t.map hf) [] d lo t.length 0 (m / 2 ^ lo) (hf (0, m)) (L ++ [⟨⟨0, (m : Int)⟩, hf (0, m)⟩]) = apl k h.k h.s h.b h.e h.l h.n (t.map hf) [] d 0 t.length 0 m (hf (0, m)) (L ++ [⟨⟨0, (m : Int)⟩, hf (0, m)⟩]) := by
      intro k
      rcases Nat.mod_two_eq_zero_or_one m with h | h
      · rw [hd1 h]; rfl
      · rw [hlo1 h, Nat.pow_zero, Nat.div_one]
    have a5 := a4 (L ++ [⟨⟨0, (m : Int)⟩, hf (0, m)⟩])
    unfold app1
    simp only [hp', Option.bind_some, if_pos hcond, Int.toNat_natCast, ← hd, ho, if_pos hcond2, List.length_map, hsame]
    refine Ev.bind a5 ?_
    simp only [List.drop_nil, List.append_nil, List.append_assoc, List.singleton_append, List.map_append, List.map_cons, List.map_nil, List.map_take]
    exact Ev.now _
theorem leaf_hf (h : Hs) (b m : Nat) (t : List Nd) (ht : Til m b t) (T : List (List Int)) (hl : T.length = t.length) (x : List Int) :
    ∃ hf : Nd → List Int, t.map hf = T ∧ hf (0, m) = x ∧ ∀ j, Ins b m (m + 1) (j + 1) → hf (j + 1, m / 2 ^ (j + 1)) = H h (hf (j, 2 * (m / 2 ^ (j + 1)))) (hf (j, 2 * (m / 2 ^ (j + 1)) + 1)) := by
  have h2 : Til (m + 1) b (t ++ [(0, m)]) := ht.append ⟨by simp, by simp; rfl⟩
  obtain ⟨hf, h3, h4⟩ := exists_hf h (t ++ [(0, m)]) (T ++ [x]) (by simp [hl]) (til_nodup h2)
  rw [List.map_append] at h3
  obtain ⟨h5, h6⟩ := List.append_inj h3 (by simp [hl])
  refine ⟨hf, h5, by simpa using h6, fun j hI => h4 j _ ?_⟩
  rw [List.mem_append]
  rintro (hm | hm)
  · -- a tree of the range ends ahead of m
    have h7 := (ht.pak.ins _ hm).2
    unfold nhi at h7
    have h8 := Nat.lt_mul_div_succ m (two_pow_pos (j + 1))
    rw [Nat.mul_comm] at h8
    simp only at h7
    omega
  · simp at hm
theorem appN_append (k : Nat) (h0 h1 h2 h3 h4 h5 b : Int) (v : List (List Int)) : ∀ (u : List (List Int)) (e : Nat) (T : List (List Int)) (L : List S88), appN k h0 h1 h2 h3 h4 h5 b (u ++ v) e T L = (appN k h0 h1 h2 h3 h4 h5 b u e T L).bind fun r => appN k h0 h1 h2 h3 h4 h5 b v (e + u.length) r.1 r.2
  | [], e, T, L => rfl
  | x :: u, e, T, L => by
    simp only [List.cons_append, appN, List.length_cons]
    rw [Option.bind_assoc]
    congr 1
    funext r
    rw [appN_append k h0 h1 h2 h3 h4 h5 b v u, show e + 1 + u.length = e + (u.length + 1) by omega]
theorem appN_ev (h : Hs) (b : Nat) : ∀ (u : List (List Int)) (m : Nat) (t : List Nd) (T : List (List Int)), b ≤ m → m + u.length < 18446744073709551616 → Row b m t → T.length = t.length → wt T + wt u ≤ 1000000000 →
    ∃ (t' : List Nd) (T' : List (List Int)) (V : List S88), Row b (m + u.length) t' ∧ T'.length = t'.length ∧ wt T' ≤ wt T + wt u ∧ V.length ≤ 65 * u.length ∧ ∀ L : List S88, L.length + 65 * u.length ≤ 700000 → Ev (fun k => appN k h.k h.s h.b h.e h.l h.n (b : Int) u m T L) (T', L ++ V)
  | [], m, t, T, h1, h2, R, hl, hw => ⟨t, T, [], R, hl, by simp [wt_nil], by simp, fun L _ => by rw [List.append_nil]; exact Ev.now _⟩
  | x :: u, m, t, T, h1, h2, R, hl, hw => by
    rw [wt_cons] at hw
    rw [List.length_cons] at h2
    obtain ⟨hf, rfl, rfl, hlaw⟩ := leaf_hf h b m t R.til T hl x
    obtain ⟨t1, d, R1, w1, hd, _, hev⟩ := app1_ev h hf b m h1 (by omega) t R (fun j _ hI => hlaw j hI) (by omega)
    obtain ⟨t', T', V, R', l', w', v', hev'⟩ := appN_ev h b u (m + 1) t1 (t1.map hf) (by omega) (by omega) R1 (by simp) (by omega)
    refine ⟨t', T', (⟨⟨0, (m : Int)⟩, hf (0, m)⟩ :: vis hf m d 0) ++ V, by rw [List.length_cons, show m + (u.length + 1) = m + 1 + u.length by omega]; exact R', l', by rw [wt_cons]; omega, ?_, fun L hL => ?_⟩
    · rw [List.length_append, List.length_cons, vis_length, List.length_cons]
      omega
    · rw [List.length_cons] at hL
      simp only [appN]
      refine Ev.bind (hev L (by omega)) ?_
      rw [← List.append_assoc]
      refine hev' _ ?_
      rw [List.length_append, List.length_cons, vis_length]
      omega
theorem append_ev (h : Hs) (b e : Nat) (l1 l2 : List (List Int)) (hbe : b ≤ e) (h64 : e + l2.length < 18446744073709551616) (t : List Nd) (R : Row b e t) (hl : l1.length = t.length) (hw : wt l1 + wt l2 ≤ 1000000000) (hl2 : l2.length ≤ 10000) :
    ∃ (t' : List Nd) (T' : List (List Int)) (V : List S88), Row b (e + l2.length) t' ∧ T'.length = t'.length ∧ wt T' ≤ wt l1 + wt l2 ∧ V.length ≤ 65 * l2.length ∧ (∀ L : List S88, L.length + 65 * l2.length ≤ 700000 → Ev (fun k => appN k h.k h.s h.b h.e h.l h.n (b : Int) l2 e l1 L) (T', L ++ V)) ∧ Ev (fun k => impl_Append.f k h.k h.s h.b h.e h.l h.n (b : Int) (e : Int) l1 l2) ((b : Int), ((e + l2.length : Nat) : Int), T', V, true) := by
  obtain ⟨t', T', V, R', l', w', v', hev⟩ := appN_ev h b l2 e t l1 hbe h64 R hl hw
  have hev0 := hev [] (by simp; omega)
  rw [List.nil_append] at hev0
  have tx : ∀ l : List (List Int), wt l ≤ 1000000000 → Ev (fun k => impl_texts.f k l) l := fun l hl => texts_ev l (by have := wt_len l; omega) (fun x hx => by have := wt_mem hx; omega)
  refine ⟨t', T', V, R', l', w', v', hev, ?_⟩
  have hsz := size_of hbe (by omega) R
  have hc : (b : Int) ≤ (e : Int) ∧ (0 : Int) ≤ (e : Int) ∧ (l1.length : Int) = (t.length : Int) := ⟨by omega, by omega, by omega⟩
  have hc2 : l2.length < 1000000 := by omega
  unfold impl_Append.f
  refine Ev.bind (tx l1 (by omega)) ?_
  simp only [hsz, Option.bind_some, if_pos hc]
  refine Ev.bind (tx l2 (by omega)) ?_
  simp only [if_pos hc2, Int.toNat_natCast]
  refine Ev.bind hev0 ?_
  exact Ev.bind (tx T' (by omega)) (Ev.now _)
end Go.Proofs.YtijldedhcjkhiaaDoor.Pure
