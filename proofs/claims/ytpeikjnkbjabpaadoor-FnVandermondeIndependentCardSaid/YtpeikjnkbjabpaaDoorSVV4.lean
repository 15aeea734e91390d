import Derived.Test.YtpeikjnkbjabpaaDoorSVV0
namespace Go.Proofs.YtpeikjnkbjabpaaDoor.V
open Go.RowKit Go.Proofs.YtpeikjnkbjabpaaDoorW.PrintWords Go.Proofs.YtpeikjnkbjabpaaDoorW.PrintLast Go.Proofs.YtpeikjnkbjabpaaDoorW.PrintMore
attribute [local go_sem] max2_int min2_int max_two min_two max_three min_three max_four min_four   -- for this text's walks alone
set_option linter.unusedVariables false
set_option linter.unusedSimpArgs false
structure Mx (w : World) (g n c : Nat) (b cap : Nat → Nat) (M : Nat → Nat → Nat) : Prop where mk ::
  (outer : ∃ cs : Array Value, w.heap[g]? = some (.cells cs 22 (0, 0)) ∧ ∀ i, i < n → cs[i]? = some (.slice (some ⟨b i, 0, none⟩) c (cap i)))
  (inner : ∀ i, i < n → ∃ cs : Array Value, w.heap[b i]? = some (.cells cs 5 (0, 0)) ∧ ∀ j, j < c → cs[j]? = some (.int .u8 ((M i j : Nat) : Int)))
  (apart : ∀ i j, i < n → j < n → b i = b j → i = j)
  (room : ∀ i, i < n → c ≤ cap i)
section
variable {w w1 : World} {g n c : Nat} {b cap : Nat → Nat} {M : Nat → Nat → Nat}
theorem Mx.ne (h : Mx w g n c b cap M) (i : Nat) (hi : i < n) : g ≠ b i := by
  obtain ⟨cs, h1, _⟩ := h.outer
  obtain ⟨cs', h2, _⟩ := h.inner i hi
  exact blk_ne h1 h2 (by decide)
theorem Mx.cellO (h : Mx w g n c b cap M) (i : Nat) (hi : i < n) : w.cell? ⟨g, i, none⟩ = some (.slice (some ⟨b i, 0, none⟩) c (cap i)) := by
  obtain ⟨cs, h1, h2⟩ := h.outer
  exact (blk_cell h1 i).trans (h2 i hi)
theorem Mx.frozenO (h : Mx w g n c b cap M) (i : Nat) : w.frozen? ⟨g, i, none⟩ = false := by
  obtain ⟨cs, h1, h2⟩ := h.outer
  exact blk_frozen h1 i
theorem Mx.cellI (h : Mx w g n c b cap M) (i j : Nat) (hi : i < n) (hj : j < c) : w.cell? ⟨b i, j, none⟩ = some (.int .u8 ((M i j : Nat) : Int)) := by
  obtain ⟨cs, h1, h2⟩ := h.inner i hi
  exact (blk_cell h1 j).trans (h2 j hj)
theorem Mx.frozenI (h : Mx w g n c b cap M) (i j : Nat) (hi : i < n) : w.frozen? ⟨b i, j, none⟩ = false := by
  obtain ⟨cs, h1, h2⟩ := h.inner i hi
  exact blk_frozen h1 j
theorem Mx.congr {M' : Nat → Nat → Nat} (h : Mx w g n c b cap M) (he : ∀ i j, i < n → j < c → M i j = M' i j) : Mx w g n c b cap M' :=
  ⟨h.outer, fun i hi => by obtain ⟨cs, h1, h2⟩ := h.inner i hi; exact ⟨cs, h1, fun j hj => by rw [← he i j hi hj]; exact h2 j hj⟩, h.apart, h.room⟩
theorem Mx.drew (h : Mx w g n c b cap M) : Mx w.drew g n c b cap M := ⟨h.outer, h.inner, h.apart, h.room⟩
theorem Mx.drewN (h : Mx w g n c b cap M) (m : Nat) : Mx (w.drewN m) g n c b cap M := ⟨h.outer, h.inner, h.apart, h.room⟩
theorem Mx.cellO_set (h : Mx w g n c b cap M) (p q : Nat) (hp : p < n) (hq : q < n) (v : Value) : (w.setCell ⟨g, q, none⟩ v).cell? ⟨g, p, none⟩ = some (if q = p then v else .slice (some ⟨b p, 0, none⟩) c (cap p)) := by
  obtain ⟨cs, h1, h2⟩ := h.outer
  rw [blk_cell (blk_set h1 q v) p, Array.getElem?_setIfInBounds, h2 p hp]
  have hl : q < cs.size := by
    have := h2 q hq
    rcases Nat.lt_or_ge q cs.size with h | h
    · exact h
    · rw [Array.getElem?_eq_none h] at this
      cases this
  by_cases e : q = p
  · rw [if_pos e, if_pos e, if_pos (e ▸ hl)]
  · rw [if_neg e, if_neg e]
theorem Mx.set (h : Mx w g n c b cap M) (i j v : Nat) (hi : i < n) : Mx (w.setCell ⟨b i, j, none⟩ (.int .u8 (v : Int))) g n c b cap (fun i' j' => if i' = i ∧ j' = j then v else M i' j') := by
  refine ⟨?_, fun i' hi' => ?_, h.apart, h.room⟩
  · obtain ⟨cs, h1, h2⟩ := h.outer
    exact ⟨cs, blk_far h1 (h.ne i hi) _, h2⟩
  · obtain ⟨cs, h1, h2⟩ := h.inner i' hi'
    by_cases e : i' = i
    · subst e
      refine ⟨_, blk_set h1 j _, fun j' hj' => ?_⟩
      rw [Array.getElem?_setIfInBounds]
      by_cases e : j = j'
      · subst e
        have := h2 j hj'
        have hl : j < cs.size := by
          rcases Nat.lt_or_ge j cs.size with h | h
          · exact h
          · rw [Array.getElem?_eq_none h] at this
            cases this
        rw [if_pos rfl, if_pos hl, if_pos ⟨rfl, rfl⟩]
      · rw [if_neg e, if_neg (fun h => e h.2.symm)]
        exact h2 j' hj'
    · refine ⟨cs, blk_far h1 (fun he => e (h.apart i' i hi' hi he)) _, fun j' hj' => ?_⟩
      rw [if_neg (fun h => e h.1)]
      exact h2 j' hj'
theorem Mx.swap (h : Mx w g n c b cap M) (p q : Nat) (hp : p < n) (hq : q < n) :
    Mx ((w.setCell ⟨g, q, none⟩ (.slice (some ⟨b p, 0, none⟩) c (cap p))).setCell ⟨g, p, none⟩ (.slice (some ⟨b q, 0, none⟩) c (cap q))) g n c (fun i => if i = p then b q else if i = q then b p else b i) (fun i => if i = p then cap q else if i = q then cap p else cap i) (fun i j => if i = p then M q j else if i = q then M p j else M i j) := by
  refine ⟨?_, fun i hi => ?_, fun i j hi hj he => ?_, fun i hi => ?_⟩
  · obtain ⟨cs, h1, h2⟩ := h.outer
    refine ⟨_, blk_set (blk_set h1 q _) p _, fun i hi => ?_⟩
    have hl : ∀ i, i < n → i < cs.size := by
      intro i hi
      have := h2 i hi
      rcases Nat.lt_or_ge i cs.size with h | h
      · exact h
      · rw [Array.getElem?_eq_none h] at this
        cases this
    rw [Array.getElem?_setIfInBounds, Array.getElem?_setIfInBounds]
    by_cases e1 : p = i
    · subst e1
      rw [if_pos rfl, if_pos (by rw [Array.size_setIfInBounds]; exact hl p hp), if_pos rfl, if_pos rfl]
    · rw [if_neg e1, if_neg (Ne.symm e1), if_neg (Ne.symm e1)]
      by_cases e2 : q = i
      · subst e2
        rw [if_pos rfl, if_pos (hl q hq), if_pos rfl, if_pos rfl]
      · rw [if_neg e2, if_neg (Ne.symm e2), if_neg (Ne.symm e2)]
        exact h2 i hi
  · have far : ∀ k, k < n → ∃ cs : Array Value, ((w.setCell ⟨g, q, none⟩ (.slice (some ⟨b p, 0, none⟩) c (cap p))).setCell ⟨g, p, none⟩ (.slice (some ⟨b q, 0, none⟩) c (cap q))).heap[b k]? = some (.cells cs 5 (0, 0)) ∧ ∀ j, j < c → cs[j]? = some (.int .u8 ((M k j : Nat) : Int)) := by
      intro k hk
      obtain ⟨cs, h1, h2⟩ := h.inner k hk
      exact ⟨cs, blk_far (blk_far h1 (Ne.symm (h.ne k hk)) _) (Ne.symm (h.ne k hk)) _, h2⟩
    by_cases e1 : i = p
    · simp only [if_pos e1]
      exact far q hq
    · simp only [if_neg e1]
      by_cases e2 : i = q
      · simp only [if_pos e2]
        exact far p hp
      · simp only [if_neg e2]
        exact far i hi
  · have key : ∀ k, k < n → ∃ k', k' < n ∧ (if k = p then b q else if k = q then b p else b k) = b k' ∧ k' = (if k = p then q else if k = q then p else k) := by
      intro k hk
      by_cases e1 : k = p
      · exact ⟨q, hq, by rw [if_pos e1], by rw [if_pos e1]⟩
      · by_cases e2 : k = q
        · exact ⟨p, hp, by rw [if_neg e1, if_pos e2], by rw [if_neg e1, if_pos e2]⟩
        · exact ⟨k, hk, by rw [if_neg e1, if_neg e2], by rw [if_neg e1, if_neg e2]⟩
    obtain ⟨i', hi', ei, ei2⟩ := key i hi
    obtain ⟨j', hj', ej, ej2⟩ := key j hj
    have hij := h.apart i' j' hi' hj' (by rw [← ei, ← ej]; exact he)
    rw [ei2, ej2] at hij
    split at hij <;> split at hij <;> (try split at hij) <;> (try split at hij) <;> omega
  · show c ≤ if i = p then cap q else if i = q then cap p else cap i
    split
    · exact h.room q hq
    · split
      · exact h.room p hp
      · exact h.room i hi
theorem Mx.below (h : Mx w g n c b cap M) (hb : Below w.heap.size w w1) : Mx w1 g n c b cap M :=
  ⟨by obtain ⟨cs, h1, h2⟩ := h.outer; exact ⟨cs, blk_below h1 hb, h2⟩, fun i hi => by obtain ⟨cs, h1, h2⟩ := h.inner i hi; exact ⟨cs, blk_below h1 hb, h2⟩, h.apart, h.room⟩
def rowsM (n c : Nat) (M : Nat → Nat → Nat) : List (List Int) := (List.range n).map fun i => (List.range c).map fun j => ((M i j : Nat) : Int)
theorem rowsM_length (n c : Nat) (M : Nat → Nat → Nat) : (rowsM n c M).length = n := by simp [rowsM]
theorem Mx.reads (h : Mx w g n c b cap M) (hn : n ≤ 9223372036854775807) (hc : c ≤ 9223372036854775807) : Kd.C (Kd.slice 5 (Kd.int .u8)) w (some ⟨g, 0, none⟩) n (rowsM n c M) := by
  refine ⟨rowsM_length n c M, hn, fun _ => ⟨_, rfl, fun i p hp => ?_⟩⟩
  have hi : i < n := by
    rcases Nat.lt_or_ge i n with h | h
    · exact h
    · rw [List.getElem?_eq_none (by rw [rowsM_length]; exact h)] at hp
      cases hp
  have hp' : p = (List.range c).map fun j => ((M i j : Nat) : Int) := by
    simp only [rowsM, List.getElem?_map, List.getElem?_range hi, Option.map_some, Option.some.injEq] at hp
    exact hp.symm
  subst hp'
  have hl : ((List.range c).map fun j => ((M i j : Nat) : Int)).length = c := by simp
  have hadd : ∀ (bb j : Nat), (⟨bb, 0, none⟩ : Addr).add j = ⟨bb, j, none⟩ := fun bb j => by unfold Addr.add; split <;> simp_all
  refine ⟨[.slice (some ⟨b i, 0, none⟩) c (cap i)], rfl, ⟨some ⟨b i, 0, none⟩, cap i, by rw [hl], by rw [hl]; exact h.room i hi, ?_⟩, fun k u hu => ?_⟩
  · refine Kd.C_of_reads (d := (0 : Int)) ⟨rfl, by rw [hl]; exact hc, fun _ => ⟨_, rfl, fun j hj => ?_⟩⟩
    rw [hl] at hj
    rw [hadd, h.cellI i j hi hj]
    congr 1
    rw [List.getD_eq_getElem?_getD]
    simp [hj]
  · cases k with
    | zero =>
      simp only [List.getElem?_cons_zero, Option.some.injEq] at hu
      subst hu
      show w.cell? ((⟨g, 0, none⟩ : Addr).add (i * 1 + 0)) = _
      rw [hadd, show i * 1 + 0 = i by omega]
      exact h.cellO i hi
    | succ k => simp at hu
end
theorem Mx.of_S {w : World} {base : Nat} {ok : Nat → Prop} {A : Option Addr} {n c cp : Nat} {rows : List (List Int)} (h : Kd.S (Kd.slice 5 (Kd.int .u8)) 22 w base ok (.slice A n cp) rows) (hn : 0 < n) (hc : 0 < c) (hr : ∀ i, i < n → (rows.getD i []).length = c)
    (hv : ∀ i j, i < n → j < c → 0 ≤ (rows.getD i []).getD j 0) : ∃ g b cap, A = some ⟨g, 0, none⟩ ∧ n ≤ cp ∧ base ≤ g ∧ (∀ i, i < n → base ≤ b i) ∧ Mx w g n c b cap (fun i j => ((rows.getD i []).getD j 0).toNat) := by
  have hlen := (Kd.S_reads' h).1
  obtain ⟨g, cp', e1, hbg, hgl, cells, hcells⟩ := Kd.S_form h (by omega)
  have hcp := (Kd.S_reads' h).2.1
  injection e1 with eA eN eC
  subst eA
  subst eC
  obtain ⟨f, hR⟩ := h
  obtain ⟨hok0, inner, ho, hreps⟩ := hR
  have hil : inner.length = rows.length := by have := hreps.1; rw [List.length_zipIdx] at this; exact this.trans (Nat.mul_one _)
  have row : ∀ i, i < n → ∃ gi ci, inner[i]? = some (.slice (some ⟨gi, 0, none⟩) c ci) ∧ c ≤ ci ∧ base ≤ gi ∧ f gi = i ∧ ∃ cs : Array Value, w.heap[gi]? = some (.cells cs 5 (0, 0)) ∧ ∀ j, j < c → cs[j]? = some (.int .u8 ((rows.getD i []).getD j 0)) := by
    intro i hi
    have hir : i < rows.length := by omega
    have hM := hreps.2 i (rows[i], i) (by rw [List.getElem?_zipIdx, List.getElem?_eq_getElem hir]; simp)
    obtain ⟨v, hv1, hRi⟩ := hM
    have hgd : rows.getD i [] = rows[i] := by rw [List.getD_eq_getElem?_getD, List.getElem?_eq_getElem hir]; rfl
    have hci : rows[i].length = c := by rw [← hgd]; exact hr i hi
    obtain ⟨gi, ci, e, hb, hl, cs, hcs⟩ := Kd.R_form hRi (by show 0 < rows[i].length; omega)
    subst e
    have hrd := Kd.R_reads' hRi
    have hinner : inner[i]? = some (.slice (some ⟨gi, 0, none⟩) rows[i].length ci) := by
      have : ((inner.drop (i * 1)).take 1)[0]? = some (.slice (some ⟨gi, 0, none⟩) rows[i].length ci) := by
        show ((inner.drop (i * (Kd.slice 5 (Kd.int .u8)).sz)).take (Kd.slice 5 (Kd.int .u8)).sz)[0]? = _
        rw [show ((inner.drop (i * (Kd.slice 5 (Kd.int .u8)).sz)).take (Kd.slice 5 (Kd.int .u8)).sz) = [.slice (some ⟨gi, 0, none⟩) rows[i].length ci] from hv1]
        rfl
      rw [List.getElem?_take_of_lt (by decide), List.getElem?_drop] at this
      simpa using this
    refine ⟨gi, ci, by rw [hinner, hci], by rw [← hci]; exact hrd.2.1, hb, (hRi.1 gi (by simp [Value.ownBlock])).2, cs, hcs, fun j hj => ?_⟩
    obtain ⟨ad, e2, hx⟩ := Kd.at_int hrd.2.2 (j : Int) (by omega) (by show (j : Int) < (rows[i].length : Int); omega)
    obtain rfl := Option.some.inj e2
    rw [Int.toNat_natCast] at hx
    have hadd : (⟨gi, 0, none⟩ : Addr).add j = ⟨gi, j, none⟩ := by unfold Addr.add; split <;> simp_all
    rw [hadd, blk_cell hcs] at hx
    rw [hx, hgd]
    show some (Value.int .u8 (rows[i].getD ((j : Int)).toNat 0)) = _
    rw [Int.toNat_natCast]
  have hch : ∃ b cap : Nat → Nat, ∀ i, i < n → inner[i]? = some (.slice (some ⟨b i, 0, none⟩) c (cap i)) ∧ c ≤ cap i ∧ base ≤ b i ∧ f (b i) = i ∧ ∃ cs : Array Value, w.heap[b i]? = some (.cells cs 5 (0, 0)) ∧ ∀ j, j < c → cs[j]? = some (.int .u8 ((rows.getD i []).getD j 0)) := by
    refine ⟨fun i => if hi : i < n then (row i hi).choose else 0, fun i => if hi : i < n then (row i hi).choose_spec.choose else 0, fun i hi => ?_⟩
    simp only [dif_pos hi]
    exact (row i hi).choose_spec.choose_spec
  obtain ⟨b, cap, hb⟩ := hch
  refine ⟨g, b, cap, rfl, hcp, hbg, fun i hi => (hb i hi).2.2.1, ⟨⟨cells, hcells, fun i hi => ?_⟩, fun i hi => ?_, fun i j hi hj e => ?_, fun i hi => (hb i hi).2.1⟩⟩
  · obtain ⟨hx, hor⟩ := ho
    rcases hor with ⟨e, _⟩ | ⟨g', cap', cur, e, _, hcur, _, _, _, htake⟩
    · cases e
    · injection e with e _ _
      injection e with e
      injection e with e
      subst e
      rw [hcells] at hcur
      injection hcur with hcur
      injection hcur with hcur
      subst hcur
      have h1 := (hb i hi).1
      rw [← htake, List.getElem?_take_of_lt (by rw [List.length_zipIdx]; show i < rows.length * 1; omega)] at h1
      rw [← Array.getElem?_toList]
      exact h1
  · obtain ⟨_, _, _, _, cs, h1, h2⟩ := hb i hi
    refine ⟨cs, h1, fun j hj => ?_⟩
    rw [h2 j hj, Int.toNat_of_nonneg (hv i j hi hj)]
  · rw [← (hb i hi).2.2.2.1, ← (hb j hj).2.2.2.1, e]
def reedsolomon_matrix_SwapRows.T3 : Bool × List (List Nat × List Nat) := (true, [([], []), ([], []), ([], []), ([], []), ([], []), ([], []), ([4, 5], [4, 5]), ([6], [6]), ([], []), ([], []), ([8, 9], [8, 9]), ([10], [10]), ([0, 1, 0, 1, 4, 5, 6, 7, 11], [0, 1]), ([12, 7, 0, 1, 4, 5, 6, 7, 11], [7, 12]), ([2, 3, 0, 1, 2, 3, 4, 5, 6, 7, 8, 9, 10, 11, 12, 13], [2, 3]), ([14, 11, 13, 0, 1, 2, 3, 4, 5, 6, 7, 8, 9, 10, 11, 12, 13], [11, 14])])
def reedsolomon_matrix_SwapRows.B3 : List Nat := [0, 0, 0, 0, 0, 0, 48, 112, 0, 0, 768, 1792, 4083, 8179, 16383, 32767]
theorem reedsolomon_matrix_SwapRows.tab3 : rtab .any (opsOf Tryd.f62 3) = reedsolomon_matrix_SwapRows.T3 := by kernel_rfl
theorem reedsolomon_matrix_SwapRows.bits3 : waitsOk reedsolomon_matrix_SwapRows.T3.2 reedsolomon_matrix_SwapRows.B3 = true := by kernel_rfl
set_option maxHeartbeats 8000000 in
set_option maxRecDepth 100000 in
theorem reedsolomon_matrix_SwapRows.calls (g n c cpo : Nat) (b cap : Nat → Nat) (M : Nat → Nat → Nat) (p q : Nat) (hp : p < n) (hq : q < n) (w0 w : World) (hM : Mx w g n c b cap M) (hg : w0.heap.size ≤ g) (hB : Below w0.heap.size w0 w) :
    Calls Tryd.prog 62 #[.slice (some ⟨g, 0, none⟩) n cpo, .int .i64 (p : Int), .int .i64 (q : Int)] w fun e w' => e = .returned .nilIface ∧ Mx w' g n c (fun i => if i = p then b q else if i = q then b p else b i) (fun i => if i = p then cap q else if i = q then cap p else cap i) (fun i j => if i = p then M q j else if i = q then M p j else M i j) ∧ Below w0.heap.size w0 w' := by
  have hu22 := Tryd.underlying22
  have hu66 := Tryd.underlying66
  have HM := Aside0.mk hM
  have HB := Aside0.mk hB
  have d1 : decide ((p : Int) < 0) = false := decide_eq_false (by omega)
  have d2 : decide ((n : Int) ≤ (p : Int)) = false := decide_eq_false (by omega)
  have d3 : decide ((q : Int) < 0) = false := decide_eq_false (by omega)
  have d4 : decide ((n : Int) ≤ (q : Int)) = false := decide_eq_false (by omega)
  have d5 : decide (n ≤ p) = false := decide_eq_false (by omega)
  have d6 : decide (n ≤ q) = false := decide_eq_false (by omega)
  have l1 : ((p : Int) < (n : Int)) = True := eq_true (by omega)
  have l2 : ((q : Int) < (n : Int)) = True := eq_true (by omega)
  clear hM hB
  go_enter Tryd.func62, Tryd.ntmps62
  go_wp2
  refine start_ (n := 16) (S := fun w' => w'.cell? ⟨g, p, none⟩ = some (.slice (some ⟨b p, 0, none⟩) c (cap p)) ∧ w'.cell? ⟨g, q, none⟩ = some (.slice (some ⟨b q, 0, none⟩) c (cap q))) (ds := [13, 15]) #[false, false, false, false, false, false, false, false, false, false, false, false, false, false, false, false] (by kernel_rfl) rfl rfl (⟨HM.out.drew.cellO p hp, HM.out.drew.cellO q hq⟩) (fun hHeld => ?_)
  refine with_tabW reedsolomon_matrix_SwapRows.tab3 reedsolomon_matrix_SwapRows.bits3 (fun HT_ HW_ => ?_)
  refine pure_ (i := 0) (N := (some 26)) (v := ?_) (a' := ?_) #[true, false, false, false, false, false, false, false, false, false, false, false, false, false, false, false] rfl rfl (any_of HT_.out (by kernel_rfl)) (fun _ _ _ h => h) (Or.inl ⟨by rfl, ?_⟩) ?_ ?_
  rotate_left
  · intro w'
    go_simp
    with_reducible rfl
  rotate_left
  · simp only [Act.put, List.setIfInBounds_toArray, List.set_cons_zero, List.set_cons_succ, i64_w, i32_w]
    rfl
  refine pure_ (i := 1) (N := (some 27)) (v := ?_) (a' := ?_) #[true, true, false, false, false, false, false, false, false, false, false, false, false, false, false, false] rfl rfl (any_of HT_.out (by kernel_rfl)) (fun _ _ _ h => h) (Or.inl ⟨by rfl, ?_⟩) ?_ ?_
  rotate_left
  · intro w'
    go_simp
    with_reducible rfl
  rotate_left
  · simp only [Act.put, List.setIfInBounds_toArray, List.set_cons_zero, List.set_cons_succ, i64_w, i32_w]
    rfl
  refine pure_ (i := 2) (N := (some 28)) (v := ?_) (a' := ?_) #[true, true, true, false, false, false, false, false, false, false, false, false, false, false, false, false] rfl rfl (any_of HT_.out (by kernel_rfl)) (fun _ _ _ h => h) (Or.inl ⟨by rfl, ?_⟩) ?_ ?_
  rotate_left
  · intro w'
    go_simp
    with_reducible rfl
  rotate_left
  · simp only [Act.put, List.setIfInBounds_toArray, List.set_cons_zero, List.set_cons_succ, i64_w, i32_w]
    rfl
  refine pure_ (i := 3) (N := (some 29)) (v := ?_) (a' := ?_) #[true, true, true, true, false, false, false, false, false, false, false, false, false, false, false, false] rfl rfl (any_of HT_.out (by kernel_rfl)) (fun _ _ _ h => h) (Or.inl ⟨by rfl, ?_⟩) ?_ ?_
  rotate_left
  · intro w'
    go_simp
    with_reducible rfl
  rotate_left
  · simp only [Act.put, List.setIfInBounds_toArray, List.set_cons_zero, List.set_cons_succ, i64_w, i32_w]
    rfl
  refine pure_ (i := 4) (N := (some 30)) (v := ?_) (a' := ?_) #[true, true, true, true, true, false, false, false, false, false, false, false, false, false, false, false] rfl rfl (any_of HT_.out (by kernel_rfl)) (fun _ _ _ h => h) (Or.inl ⟨by rfl, ?_⟩) ?_ ?_
  rotate_left
  · intro w'
    go_simp
    with_reducible rfl
  rotate_left
  · simp only [Act.put, List.setIfInBounds_toArray, List.set_cons_zero, List.set_cons_succ, i64_w, i32_w]
    rfl
  refine pure_ (i := 5) (N := (some 31)) (v := ?_) (a' := ?_) #[true, true, true, true, true, true, false, false, false, false, false, false, false, false, false, false] rfl rfl (any_of HT_.out (by kernel_rfl)) (fun _ _ _ h => h) (Or.inl ⟨by rfl, ?_⟩) ?_ ?_
  rotate_left
  · intro w'
    go_simp
    with_reducible rfl
  rotate_left
  · simp only [Act.put, List.setIfInBounds_toArray, List.set_cons_zero, List.set_cons_succ, i64_w, i32_w]
    rfl
  refine pure_ (i := 6) (N := (some 32)) (v := ?_) (a' := ?_) #[true, true, true, true, true, true, true, false, false, false, false, false, false, false, false, false] rfl rfl (any_of HT_.out (by kernel_rfl)) (fun _ _ _ h => h) (Or.inl ⟨by rfl, ?_⟩) ?_ ?_
  rotate_left
  · intro w'
    go_simp
    with_reducible rfl
  rotate_left
  · simp only [Act.put, List.setIfInBounds_toArray, List.set_cons_zero, List.set_cons_succ, i64_w, i32_w]
    rfl
  refine take_ (i := 7) (N := (some 33)) (v := ?_) (a' := ?_) #[true, true, true, true, true, true, true, true, false, false, false, false, false, false, false, false] rfl rfl (take_ofW HT_.out HW_.out (by kernel_rfl)) (fun _ _ _ h => h) (Or.inl ⟨by rfl, ?_⟩) hHeld ?_ ?_
  rotate_left
  · rintro w' ⟨s0, s1⟩
    go_simp
    with_reducible rfl
  rotate_left
  · simp only [Act.put, List.setIfInBounds_toArray, List.set_cons_zero, List.set_cons_succ, i64_w, i32_w]
    rfl
  refine pure_ (i := 8) (N := (some 34)) (v := ?_) (a' := ?_) #[true, true, true, true, true, true, true, true, true, false, false, false, false, false, false, false] rfl rfl (any_of HT_.out (by kernel_rfl)) (fun _ _ _ h => h) (Or.inl ⟨by rfl, ?_⟩) ?_ ?_
  rotate_left
  · intro w'
    go_simp
    with_reducible rfl
  rotate_left
  · simp only [Act.put, List.setIfInBounds_toArray, List.set_cons_zero, List.set_cons_succ, i64_w, i32_w]
    rfl
  refine pure_ (i := 9) (N := (some 35)) (v := ?_) (a' := ?_) #[true, true, true, true, true, true, true, true, true, true, false, false, false, false, false, false] rfl rfl (any_of HT_.out (by kernel_rfl)) (fun _ _ _ h => h) (Or.inl ⟨by rfl, ?_⟩) ?_ ?_
  rotate_left
  · intro w'
    go_simp
    with_reducible rfl
  rotate_left
  · simp only [Act.put, List.setIfInBounds_toArray, List.set_cons_zero, List.set_cons_succ, i64_w, i32_w]
    rfl
  refine pure_ (i := 10) (N := (some 36)) (v := ?_) (a' := ?_) #[true, true, true, true, true, true, true, true, true, true, true, false, false, false, false, false] rfl rfl (any_of HT_.out (by kernel_rfl)) (fun _ _ _ h => h) (Or.inl ⟨by rfl, ?_⟩) ?_ ?_
  rotate_left
  · intro w'
    go_simp
    with_reducible rfl
  rotate_left
  · simp only [Act.put, List.setIfInBounds_toArray, List.set_cons_zero, List.set_cons_succ, i64_w, i32_w]
    rfl
  refine take_ (i := 11) (N := (some 37)) (v := ?_) (a' := ?_) #[true, true, true, true, true, true, true, true, true, true, true, true, false, false, false, false] rfl rfl (take_ofW HT_.out HW_.out (by kernel_rfl)) (fun _ _ _ h => h) (Or.inl ⟨by rfl, ?_⟩) hHeld ?_ ?_
  rotate_left
  · rintro w' ⟨s0, s1⟩
    go_simp
    with_reducible rfl
  rotate_left
  · simp only [Act.put, List.setIfInBounds_toArray, List.set_cons_zero, List.set_cons_succ, i64_w, i32_w]
    rfl
  refine pure_ (i := 12) (N := (some 38)) (v := ?_) (a' := ?_) #[true, true, true, true, true, true, true, true, true, true, true, true, true, false, false, false] rfl rfl (any_of HT_.out (by kernel_rfl)) (fun _ _ _ h => h) (Or.inl ⟨by rfl, ?_⟩) ?_ ?_
  rotate_left
  · intro w'
    go_simp
    with_reducible rfl
  rotate_left
  · simp only [Act.put, List.setIfInBounds_toArray, List.set_cons_zero, List.set_cons_succ, i64_w, i32_w]
    rfl
  have hc1 := HM.out.drew.cellO q hq
  have hf1 := HM.out.drew.frozenO q
  refine last_ (i := 13) (N := none) #[true, true, true, true, true, true, true, true, true, true, true, true, true, true, false, false] rfl rfl (one_of HT_.out (by kernel_rfl)) (by decide) (fun K hK => ?_)
  refine skip_ (w1 := ?_) (by rfl) rfl ?_ ?_
  rotate_left
  · go_simp
    rfl
  refine hK.out _ _ ?_
  clear hK K
  refine pure_ (i := 14) (N := (some 39)) (v := ?_) (a' := ?_) #[true, true, true, true, true, true, true, true, true, true, true, true, true, true, true, false] rfl rfl (any_of HT_.out (by kernel_rfl)) (fun _ _ _ h => h) (Or.inl ⟨by rfl, ?_⟩) ?_ ?_
  rotate_left
  · intro w'
    go_simp
    with_reducible rfl
  rotate_left
  · simp only [Act.put, List.setIfInBounds_toArray, List.set_cons_zero, List.set_cons_succ, i64_w, i32_w]
    rfl
  clear hc1
  have hc2 := HM.out.cellO_set p q hp hq (.slice (some ⟨b p, 0, none⟩) c (cap p))
  have hf2 := HM.out.frozenO p
  refine last_ (i := 15) (N := none) #[true, true, true, true, true, true, true, true, true, true, true, true, true, true, true, true] rfl rfl (one_of HT_.out (by kernel_rfl)) (by decide) (fun K hK => ?_)
  refine skip_ (w1 := ?_) (by rfl) rfl ?_ ?_
  rotate_left
  · go_simp
    rfl
  refine hK.out _ _ ?_
  clear hK K
  refine done_ (done_of HT_.out (by kernel_rfl)) ?_
  go_wp2
  go_ret
  exact ⟨rfl, (HM.out.swap p q hp hq).drew, below_drew1 (below_set (below_set HB.out hg) hg)⟩
def ginv (a : Nat) : Nat := gpow (255 - glog a)
def reedsolomon_galOneOver.f (a0 : Int) : Option (Int) := if 0 < a0 ∧ a0 < 256 then some ((ginv a0.toNat : Nat) : Int) else none
set_option maxHeartbeats 1000000 in
set_option maxRecDepth 100000 in
theorem reedsolomon_galOneOver.core (x l m z : Nat) (w : World) (hx : x < 256) (hx0 : ((x : Int) == 0) = false) (hl : l < 255) (hm : bits .xor .u8 (l : Int) 255 = (m : Int)) (hm2 : m < 256)
    (c1 : w.cell? ⟨0, x, none⟩ = some (.int .u8 (l : Int))) (c2 : w.cell? ⟨1, m, none⟩ = some (.int .u8 (z : Int))) :
    Calls Tryd.prog 63 #[.int .u8 (x : Int)] w fun e w' => e = .returned (.int .u8 (z : Int)) ∧ Drawn0 w w' := by
  have i1 : (x : Int) < 256 := by omega
  have i3 : (m : Int) < 256 := by omega
  go_enter Tryd.func63, Tryd.ntmps63
  go_wp2
  go_ret
  exact ⟨by first | rfl | (simp; done), by repeat (first | exact Drawn0.refl _ | apply Drawn0.step)⟩
theorem xor255 (l : Nat) (h : l < 255) : bits .xor .u8 (l : Int) 255 = ((255 - l : Nat) : Int) := (show ∀ q : Fin 255, bits .xor .u8 (q.val : Int) 255 = ((255 - q.val : Nat) : Int) by decide +kernel) ⟨l, h⟩
theorem reedsolomon_galOneOver.calls (a0 : Int) (r : Int) (w : World) (hGF : GlobF w) (h : reedsolomon_galOneOver.f a0 = some r) :
    Calls Tryd.prog 63 #[.int .u8 a0] w fun e w' => e = .returned (.int .u8 r) ∧ Drawn0 w w' := by
  unfold reedsolomon_galOneOver.f at h
  split at h
  · rename_i hc
    obtain ⟨x, rfl⟩ := Int.eq_ofNat_of_zero_le (show 0 ≤ a0 by omega)
    rw [Int.toNat_natCast] at h
    obtain rfl := Option.some.inj h
    have hl := glog_lt x
    exact reedsolomon_galOneOver.core x (glog x) (255 - glog x) _ w (by omega) (by rw [beq_eq_false_iff_ne]; omega) hl (xor255 _ hl) (by omega) (hGF.log x (by omega)) (hGF.exp _ (by omega))
  · cases h
end Go.Proofs.YtpeikjnkbjabpaaDoor.V
