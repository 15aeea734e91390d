import Derived.Test.YtijldedhcjkhiaaDoorSUU0
import Derived.Test.YtijldedhcjkhiaaDoorSUU1
import Derived.Test.YtijldedhcjkhiaaDoorSUU6
import Derived.Test.YtijldedhcjkhiaaDoorSUU8
namespace Go.Proofs.YtijldedhcjkhiaaDoor.U
open Go.RowKit Go.Proofs.YtijldedhcjkhiaaDoorW.PrintWords Go.Proofs.YtijldedhcjkhiaaDoorW.PrintLast Go.Proofs.YtijldedhcjkhiaaDoorW.PrintMore
attribute [local go_sem] max2_int min2_int max_two min_two max_three min_three max_four min_four   -- for this text's walks alone
set_option linter.unusedVariables false
set_option linter.unusedSimpArgs false
attribute [local go_sem high] eqA70
def srr (k : Nat) (h0 h1 h2 h3 h4 h5 e : Int) (l : List S88) : Nat → List Int → List S88 → Option (List Int × List S88)
  | 0, root, L => some (root, L)
  | i + 1, root, L => (spec_HashChildren.f k h0 h1 h2 h3 h4 h5 (l.getD i z88).f1 root).bind fun t => (spec_Leaves.f (l.getD i z88).f0.f0 (l.getD i z88).f0.f1).bind fun p => (spec_Covering.f k p.1 e).bind fun q => if L.length < 1000000 then srr k h0 h1 h2 h3 h4 h5 e l i t (L ++ [⟨⟨q.1, q.2⟩, t⟩]) else none
theorem srr_mono (k : Nat) (h0 h1 h2 h3 h4 h5 e : Int) (l : List S88) : ∀ i root L, LeO (srr k h0 h1 h2 h3 h4 h5 e l i root L) (srr (k + 1) h0 h1 h2 h3 h4 h5 e l i root L)
  | 0, _, _ => LeO.refl _
  | i + 1, _, _ => LeO.bind (spec_HashChildren.mono _ _ _ _ _ _ _ _ _) fun _ => LeO.bind (LeO.refl _) fun _ => LeO.bind (spec_Covering.mono _ _ _) fun _ => LeO.ite (srr_mono k h0 h1 h2 h3 h4 h5 e l i _ _) (LeO.none _)
def spec_RangeRoot.f (k : Nat) (h0 h1 h2 h3 h4 h5 b e : Int) (l1 : List (List Int)) : Option (List Int × List S88) :=
  (spec_Named.f k b e l1).bind fun l => if 0 < l.length ∧ l.length ≤ 100000 then srr k h0 h1 h2 h3 h4 h5 e l (l.length - 1) (l.getD (l.length - 1) z88).f1 [] else none
theorem spec_RangeRoot.mono (h0 h1 h2 h3 h4 h5 b e : Int) (l1 : List (List Int)) : ∀ k, LeO (spec_RangeRoot.f k h0 h1 h2 h3 h4 h5 b e l1) (spec_RangeRoot.f (k + 1) h0 h1 h2 h3 h4 h5 b e l1) := by
  intro k
  unfold spec_RangeRoot.f
  exact LeO.bind (spec_Named.mono _ _ _ _) fun l => LeO.ite (srr_mono _ _ _ _ _ _ _ _ _ _ _ _) (LeO.none _)
theorem f88_at {W : World} {ok : Nat → Prop} {A : Option Addr} {n : Nat} {xs : List S88} (h : Kd.F k88 W ok A n xs) (i : Nat) (h1 : i < n) :
    ∃ ad A2 c2, A = some ad ∧ W.cell? (ad.add (i * 3)) = some (.int .u64 (xs.getD i z88).f0.f0) ∧ W.cell? ⟨(ad.add (i * 3)).block, (ad.add (i * 3)).off + 1, none⟩ = some (.int .u64 (xs.getD i z88).f0.f1) ∧ W.cell? ⟨(ad.add (i * 3)).block, (ad.add (i * 3)).off + 2, none⟩ = some (.slice A2 (xs.getD i z88).f1.length c2) ∧ (xs.getD i z88).f1.length ≤ c2 ∧ Kd.F (Kd.int .u8) W ok A2 (xs.getD i z88).f1.length (xs.getD i z88).f1 := by
  obtain ⟨ad, c', hA, hcl, hf, hcc, _⟩ := Kd.F_get h z88 (i : Int) (by omega) (by omega)
  rw [Int.toNat_natCast] at hf
  obtain ⟨A2, c2, rfl, hl, hF⟩ := k88_openF hf
  have e0 := hcc 0 _ rfl
  have e1 := hcc 1 _ rfl
  have e2 := hcc 2 _ rfl
  rw [show k88.sz = 3 from rfl, Int.toNat_natCast] at e0 e1 e2
  exact ⟨ad, A2, c2, hA, e0, by rw [← add_field _ _ 1 (by omega)]; exact e1, by rw [← add_field _ _ 2 (by omega)]; exact e2, hl, hF⟩
def spec_RangeRoot.T7 : Bool × List (List Nat × List Nat) := (true, [([], []), ([], []), ([], []), ([1, 2], [1, 2]), ([3], [3]), ([4], [4]), ([], []), ([0, 5, 6], [0, 5, 6]), ([7, 7, 0, 1, 2, 3, 4, 5, 6, 7], [6, 7])])
def spec_RangeRoot.B7 : List Nat := [0, 0, 0, 6, 14, 30, 0, 127, 255]
theorem spec_RangeRoot.tab7 : rtab .any (opsOf Tryd.f24 7) = spec_RangeRoot.T7 := by kernel_rfl
theorem spec_RangeRoot.bits7 : waitsOk spec_RangeRoot.T7.2 spec_RangeRoot.B7 = true := by kernel_rfl
def spec_RangeRoot.T8 : Bool × List (List Nat × List Nat) := (true, [([], []), ([], []), ([], []), ([1, 2], [1, 2]), ([3], [3]), ([4], [4]), ([5], [5]), ([6], [6]), ([], []), ([8], [8]), ([7, 9], [7, 9]), ([10, 6], [10]), ([], []), ([11, 12], [11, 12]), ([13], [13]), ([0, 14, 11], [0, 14]), ([15, 15, 0, 1, 2, 3, 4, 5, 6, 7, 8, 9, 10, 11, 12, 13, 14, 15], [0, 15])])
def spec_RangeRoot.B8 : List Nat := [0, 0, 0, 6, 14, 30, 62, 126, 0, 256, 1022, 2046, 0, 8190, 16382, 32767, 65535]
theorem spec_RangeRoot.tab8 : rtab .any (opsOf Tryd.f24 8) = spec_RangeRoot.T8 := by kernel_rfl
theorem spec_RangeRoot.bits8 : waitsOk spec_RangeRoot.T8.2 spec_RangeRoot.B8 = true := by kernel_rfl
set_option maxHeartbeats 8000000 in
set_option maxRecDepth 100000 in
theorem spec_RangeRoot.calls (k : Nat) (a0_0 : Int) (a0_1 : Int) (a0_2 : Int) (a0_3 : Int) (a0_4 : Int) (a0_5 : Int) (a1_0 : Int) (a1_1 : Int) (P1_2_ : Nat → Prop) (A1_2 : Option Addr) (c1_2 : Nat) (l1_2 : List (List Int)) (r1 : List Int) (r2 : List S88) (w : World) (hs1_2 : Kd.V (Kd.slice 5 (Kd.int .u8)) 42 w w.heap.size (fun k_ => P1_2_ k_) (.slice A1_2 l1_2.length c1_2) l1_2) (h : spec_RangeRoot.f k a0_0 a0_1 a0_2 a0_3 a0_4 a0_5 a1_0 a1_1 l1_2 = some (r1, r2)) :
    Calls Tryd.prog 24 #[.agg #[.int .i64 a0_0, .int .i64 a0_1, .int .i64 a0_2, .int .u64 a0_3, .int .u64 a0_4, .int .u64 a0_5], .agg #[.int .u64 a1_0, .int .u64 a1_1, .slice A1_2 l1_2.length c1_2]] w fun e w' => ∃ v0_ v1_ : Value, e = .returned (.tuple #[v0_, v1_]) ∧ Kd.V (Kd.int .u8) 5 w' w.heap.size (fun k_ => P1_2_ k_ ∨ w.heap.size ≤ k_) v0_ r1 ∧ Kd.V k88 88 w' w.heap.size (fun k_ => P1_2_ k_ ∨ w.heap.size ≤ k_) v1_ r2 ∧ Below w.heap.size w w' := by
  have hu37 := Tryd.underlying37
  have hu40 := Tryd.underlying40
  have hu43 := Tryd.underlying43
  have hu88 := Tryd.underlying88
  have hu70 := Tryd.underlying70
  have hu34 := Tryd.underlying34
  have HP := Aside0.mk hs1_2
  have HB := Aside0.mk (Below.refl w.heap.size w)
  clear hs1_2
  unfold spec_RangeRoot.f at h
  obtain ⟨l, hA1, H⟩ := Option.bind_eq_some_iff.mp h
  by_cases hl : 0 < l.length ∧ l.length ≤ 100000
  case neg => rw [if_neg hl] at H; cases H
  rw [if_pos hl] at H
  obtain ⟨hl0, hl1⟩ := hl
  have HL0 := Aside0.mk hl0
  have A1 := Aside0.mk hA1
  have HH := Aside0.mk H
  clear h hA1 H
  have li : ((l.length : Int) - 1 < (l.length : Int)) = True := eq_true (by omega)
  have li0 : ((0 : Int) ≤ (l.length : Int) - 1) = True := eq_true (by omega)
  go_enter Tryd.func24, Tryd.ntmps24
  go_wp2_with (first | ((with_reducible refine gate_dst (N := 2) rfl ?_); refine box_event ?hg (N := 2) ?hd (cs := #[.int .i64 a0_0, .int .i64 a0_1, .int .i64 a0_2, .int .u64 a0_3, .int .u64 a0_4, .int .u64 a0_5]) (t := 37) ?hr ?_; (case hd => rfl); (case hg => rfl); (case hr => first | (go_simp; done) | (go_simp; rfl)); intro gb2 hg w3 hbox hb; (have BK2 := Aside0.mk hbox); (have HB1 := Aside0.mk (below_step HB.out hb)); clear hbox hb hg HB; have HB := HB1; clear HB1) | ((with_reducible refine gate_dst (N := 3) rfl ?_); refine box_event ?hg (N := 3) ?hd (cs := #[.int .u64 a1_0, .int .u64 a1_1, .slice A1_2 l1_2.length c1_2]) (t := 40) ?hr ?_; (case hd => rfl); (case hg => rfl); (case hr => first | (go_simp; done) | (go_simp; rfl)); intro gb3 hg w4 hbox hb; (have BK3 := Aside0.mk hbox); (have BK21 := Aside0.mk (blk_below BK2.out hb)); (have HB1 := Aside0.mk (below_step HB.out hb)); clear hbox hb hg HB BK2; have HB := HB1; have BK2 := BK21; clear HB1 BK21; have hc3_0 := (blk_cell BK3.out 0).trans rfl; have hc3_1 := (blk_cell BK3.out 1).trans rfl; have hc3_2 := (blk_cell BK3.out 2).trans rfl) | (go_at_call 74; (refine (spec_Named.calls k a1_0 a1_1 P1_2_ A1_2 c1_2 l1_2 l _ ?hs A1.out).mono ?_); (case hs => exact Kd.V_lower (Kd.V_mono (Kd.V_mk (Kd.V_reads' HP.out).2.1 (Kd.F_below (Kd.V_F HP.out) HB.out)) (fun _ h => h)) (Nat.le_refl _)); rintro e5 w5 ⟨v5, rfl, ho, hb⟩; (obtain ⟨AL, cL, rfl⟩ := Kd.N_slice ho); (have HLC := Aside0.mk (Kd.N_reads' ho).2.1); (have HL := Aside0.mk (Kd.F_mono (ok' := fun k => P1_2_ k ∨ w.heap.size ≤ k) (Kd.N_F ho) (fun k hk => Or.elim hk Or.inl (fun h => Or.inr (Nat.le_trans HB.out.size h))))); (have BK21 := Aside0.mk (blk_below BK2.out hb)); (have BK31 := Aside0.mk (blk_below BK3.out hb)); (have HB1 := Aside0.mk (below_step HB.out hb)); clear hc3_0 hc3_1 hc3_2 ho hb HB BK2 BK3; (have HB := HB1); (have BK2 := BK21); (have BK3 := BK31); clear HB1 BK21 BK31; (obtain ⟨adL, A4, c4, eAL, hx0, hx1, hx4, hl4, hF4⟩ := f88_at HL.out (l.length - 1) (by have := HL0.out; omega)); subst eAL; (have HL4 := Aside0.mk hl4); (have HF4 := Aside0.mk hF4); clear hl4 hF4))
  try simp only [Act.put, List.setIfInBounds_toArray, List.set_cons_zero, List.set_cons_succ]
  clear hx0 hx1 hx4
  have HLO := Aside0.mk (show w.heap.size ≤ w5.heap.size from HB.out.size)
  go_loopg [7, 8, 9] (l.length - 1) (fun kq v7 v8 v9 w' => ∃ (hd : List Int) (A : Option Addr) (c : Nat) (i1 : Int) (vs : Value) (L1 : List S88), v7 = .slice A hd.length c ∧ vs = v8 ∧ v9 = .int .i64 i1 ∧ Aside0 (i1 = (kq : Int) - 1 ∧ kq + 1 ≤ l.length ∧ hd.length ≤ c ∧ L1.length + kq ≤ l.length) ∧ Aside0 (srr k a0_0 a0_1 a0_2 a0_3 a0_4 a0_5 a1_1 l kq hd L1 = some (r1, r2)) ∧ Aside0 (w'.heap[gb2]? = some (.cells #[.int .i64 a0_0, .int .i64 a0_1, .int .i64 a0_2, .int .u64 a0_3, .int .u64 a0_4, .int .u64 a0_5] 37 (0, 0))) ∧ Aside0 (w'.heap[gb3]? = some (.cells #[.int .u64 a1_0, .int .u64 a1_1, .slice A1_2 l1_2.length c1_2] 40 (0, 0))) ∧ Aside0 (Kd.F k88 w' (fun k => (P1_2_ k ∨ w.heap.size ≤ k) ∧ some k ≠ vs.ownBlock) (some adL) l.length l) ∧ Aside0 (Kd.F (Kd.int .u8) w' (fun k => (P1_2_ k ∨ w.heap.size ≤ k) ∧ some k ≠ vs.ownBlock) A hd.length hd) ∧ Aside0 (Kd.N k88 88 w' w.heap.size (fun k => P1_2_ k ∨ w.heap.size ≤ k) vs L1) ∧ Aside0 (Below w.heap.size w w'))
  case atStart => exact ⟨_, A4, c4, (l.length : Int) - 2, .slice none 0 0, [], rfl, rfl, rfl, ⟨by omega, by omega, HL4.out, by simp⟩, HH, BK2, BK3, ⟨Kd.F_apart_nil HL.out⟩, ⟨Kd.F_apart_nil HF4.out⟩, ⟨Kd.N_nil _ _ _ _ _⟩, HB⟩
  case round =>
    clear HL HF4 HL4 HH BK2 BK3 HB
    obtain ⟨hd, A, c, i1, vs, L1, rfl, rfl, rfl, HQ, HRR, BK2, BK3, HL, HD, HV, HB⟩ := hrel
    rcases gk with _ | j
    · obtain ⟨g1, g2, g3, g4⟩ := HQ.out
      obtain rfl : i1 = -1 := by rw [g1]; rfl
      have H := HRR.out
      simp only [srr, Option.some.injEq, Prod.mk.injEq] at H
      obtain ⟨rfl, rfl⟩ := H
      clear g1
      go_wp2
      go_ret2
      obtain ⟨Av, cv, ev⟩ := Kd.N_slice HV.out
      have hv := HV.out
      rw [ev] at hv
      exact ⟨_, _, rfl, Kd.V_mk g3 (Kd.F_mono HD.out (fun _ hk => hk.1)), by rw [ev]; exact Kd.V_mk (Kd.N_reads' hv).2.1 (Kd.N_F hv), HB.out⟩
    · obtain rfl : i1 = (j : Int) := by have := HQ.out.1; omega
      have cz : decide ((j : Int) ≥ 0) = true := decide_eq_true (by omega)
      have cz' : decide ((0 : Int) ≤ (j : Int)) = true := decide_eq_true (by omega)
      have H := HRR.out
      simp only [srr] at H
      obtain ⟨t, hA1, H⟩ := Option.bind_eq_some_iff.mp H
      obtain ⟨⟨p1, p2⟩, hA2, H⟩ := Option.bind_eq_some_iff.mp H
      obtain ⟨⟨q1, q2⟩, hA3, H⟩ := Option.bind_eq_some_iff.mp H
      by_cases hll : L1.length < 1000000
      case neg => rw [if_neg hll] at H; cases H
      rw [if_pos hll] at H
      have hjn : j < l.length := by have := HQ.out.2.1; omega
      obtain ⟨ad', A4, c4, eAL, hx0, hx1, hx4, hl4, hF4⟩ := f88_at HL.out j hjn
      injection eAL with eAL
      subst eAL
      obtain ⟨el, HEL⟩ : ∃ el, Aside0 (l.getD j z88 = el) := ⟨_, ⟨rfl⟩⟩
      rw [HEL.out] at hx0 hx1 hx4 hl4 hF4 hA1 hA2
      have HA1 := Aside0.mk hA1
      have HA2 := Aside0.mk hA2
      have HA3 := Aside0.mk hA3
      have HRR1 := Aside0.mk H
      have HX0 := Aside0.mk hx0
      have HX1 := Aside0.mk hx1
      have HX4 := Aside0.mk hx4
      have HL4 := Aside0.mk hl4
      have HI4 := Aside0.mk (Kd.F_now hF4)
      have HCL := Aside0.mk HQ.out.2.2.1
      clear H hA1 hA2 hA3 hx0 hx1 hx4 hl4 hF4 HRR
      have lj : ((j : Int) < (l.length : Int)) = True := eq_true (by omega)
      have lj0 : ((0 : Int) ≤ (j : Int)) = True := eq_true (by omega)
      go_wp2
      refine start_ (n := 9) (S := fun w' => w'.cell? ⟨gb2, 0, none⟩ = some (.int .i64 a0_0) ∧ w'.cell? ⟨gb2, 1, none⟩ = some (.int .i64 a0_1) ∧ w'.cell? ⟨gb2, 2, none⟩ = some (.int .i64 a0_2) ∧ w'.cell? ⟨gb2, 3, none⟩ = some (.int .u64 a0_3) ∧ w'.cell? ⟨gb2, 4, none⟩ = some (.int .u64 a0_4) ∧ w'.cell? ⟨gb2, 5, none⟩ = some (.int .u64 a0_5) ∧ w'.cell? ⟨(adL.add (j * 3)).block, (adL.add (j * 3)).off + 2, none⟩ = some (.slice A4 el.f1.length c4)) (ds := []) #[false, false, false, false, false, false, false, false, false] (by kernel_rfl) rfl rfl (⟨(blk_cell (blk_drew BK2.out) 0).trans rfl, (blk_cell (blk_drew BK2.out) 1).trans rfl, (blk_cell (blk_drew BK2.out) 2).trans rfl, (blk_cell (blk_drew BK2.out) 3).trans rfl, (blk_cell (blk_drew BK2.out) 4).trans rfl, (blk_cell (blk_drew BK2.out) 5).trans rfl, HX4.out⟩) (fun hHeld => ?_)
      refine with_tabW spec_RangeRoot.tab7 spec_RangeRoot.bits7 (fun HT_ HW_ => ?_)
      refine take_ (i := 0) (N := (some 26)) (v := ?_) (a' := ?_) #[true, false, false, false, false, false, false, false, false] rfl rfl (take_ofW HT_.out HW_.out (by kernel_rfl)) (fun _ _ _ h => h) (Or.inl ⟨by rfl, ?_⟩) hHeld ?_ ?_
      rotate_left
      · rintro w' ⟨s0, s1, s2, s3, s4, s5, s6⟩
        go_simp
        with_reducible rfl
      rotate_left
      · simp only [Act.put, List.setIfInBounds_toArray, List.set_cons_zero, List.set_cons_succ, i64_w, i32_w]
        rfl
      refine pure_ (i := 1) (N := (some 27)) (v := ?_) (a' := ?_) #[true, true, false, false, false, false, false, false, false] rfl rfl (any_of HT_.out (by kernel_rfl)) (fun _ _ _ h => h) (Or.inl ⟨by rfl, ?_⟩) ?_ ?_
      rotate_left
      · intro w'
        go_simp
        with_reducible rfl
      rotate_left
      · simp only [Act.put, List.setIfInBounds_toArray, List.set_cons_zero, List.set_cons_succ, i64_w, i32_w]
        rfl
      refine pure_ (i := 2) (N := (some 28)) (v := ?_) (a' := ?_) #[true, true, true, false, false, false, false, false, false] rfl rfl (any_of HT_.out (by kernel_rfl)) (fun _ _ _ h => h) (Or.inl ⟨by rfl, ?_⟩) ?_ ?_
      rotate_left
      · intro w'
        go_simp
        with_reducible rfl
      rotate_left
      · simp only [Act.put, List.setIfInBounds_toArray, List.set_cons_zero, List.set_cons_succ, i64_w, i32_w]
        rfl
      refine pure_ (i := 3) (N := (some 29)) (v := ?_) (a' := ?_) #[true, true, true, true, false, false, false, false, false] rfl rfl (any_of HT_.out (by kernel_rfl)) (fun _ _ _ h => h) (Or.inl ⟨by rfl, ?_⟩) ?_ ?_
      rotate_left
      · intro w'
        go_simp
        with_reducible rfl
      rotate_left
      · simp only [Act.put, List.setIfInBounds_toArray, List.set_cons_zero, List.set_cons_succ, i64_w, i32_w]
        rfl
      refine pure_ (i := 4) (N := (some 30)) (v := ?_) (a' := ?_) #[true, true, true, true, true, false, false, false, false] rfl rfl (any_of HT_.out (by kernel_rfl)) (fun _ _ _ h => h) (Or.inl ⟨by rfl, ?_⟩) ?_ ?_
      rotate_left
      · intro w'
        go_simp
        with_reducible rfl
      rotate_left
      · simp only [Act.put, List.setIfInBounds_toArray, List.set_cons_zero, List.set_cons_succ, i64_w, i32_w]
        rfl
      refine take_ (i := 5) (N := (some 31)) (v := ?_) (a' := ?_) #[true, true, true, true, true, true, false, false, false] rfl rfl (take_ofW HT_.out HW_.out (by kernel_rfl)) (fun _ _ _ h => h) (Or.inl ⟨by rfl, ?_⟩) hHeld ?_ ?_
      rotate_left
      · rintro w' ⟨s0, s1, s2, s3, s4, s5, s6⟩
        go_simp
        with_reducible rfl
      rotate_left
      · simp only [Act.put, List.setIfInBounds_toArray, List.set_cons_zero, List.set_cons_succ, i64_w, i32_w]
        rfl
      refine pure_ (i := 6) (N := (some 32)) (v := ?_) (a' := ?_) #[true, true, true, true, true, true, true, false, false] rfl rfl (any_of HT_.out (by kernel_rfl)) (fun _ _ _ h => h) (Or.inl ⟨by rfl, ?_⟩) ?_ ?_
      rotate_left
      · intro w'
        go_simp
        with_reducible rfl
      rotate_left
      · simp only [Act.put, List.setIfInBounds_toArray, List.set_cons_zero, List.set_cons_succ, i64_w, i32_w]
        rfl
      refine one_ (i := 7) (N := (some 33)) #[true, true, true, true, true, true, true, true, false] rfl rfl (one_of HT_.out (by kernel_rfl)) (by decide) (fun K hK => ?_)
      refine goes_ Tryd.func75 (by kernel_rfl) rfl #[.agg #[.int .i64 a0_0, .int .i64 a0_1, .int .i64 a0_2, .int .u64 a0_3, .int .u64 a0_4, .int .u64 a0_5], .slice A4 el.f1.length c4, .slice A hd.length c] (by rfl) rfl rfl (by (try simp only [List.map_toArray, List.map_cons, List.map_nil]); first | done | rfl) ?_
      with_reducible refine (spec_HashChildren.calls k a0_0 a0_1 a0_2 a0_3 a0_4 a0_5 _ _ _ _ _ _ _ _ (Kd.C_drew HI4.out) HL4.out (Kd.C_drew (Kd.F_now HD.out)) HCL.out HA1.out).mono ?_
      rintro e8 w8 ⟨v5, rfl, ho8, hb8⟩
      refine ⟨_, rfl, ?_⟩
      obtain ⟨A5, c5, rfl⟩ := Kd.R_slice ho8
      have hb9 := below_drew1 (Below.refl wr.heap.size wr)
      have hb10 : Below wr.heap.size wr w8 := below_step hb9 hb8
      have HSZ := Aside0.mk (And.intro HB.out.size hb10.size)
      have HD8 := Aside0.mk (Kd.F_mono (ok' := fun k => (P1_2_ k ∨ w.heap.size ≤ k) ∧ some k ≠ vs.ownBlock) (Kd.R_F (Kd.R_bound ho8)) (fun k hk => ⟨Or.inr (Nat.le_trans HB.out.size hk.2.1), fun he => by have h1 := Kd.N_lt HV.out k he.symm; have h2 : wr.heap.size ≤ k := hk.2.1; omega⟩))
      have HC5 := Aside0.mk (Kd.R_reads' ho8).2.1
      have BK21 := Aside0.mk (blk_below BK2.out hb10)
      have BK31 := Aside0.mk (blk_below BK3.out hb10)
      have HL1 := Aside0.mk (Kd.F_below HL.out hb10)
      have HV1 := Aside0.mk (Kd.N_below HV.out hb10)
      have HB1 := Aside0.mk (below_step HB.out hb10)
      have HX01 := Aside0.mk ((hb10.cell (World.block_lt_of_cell? _ _ HX0.out)).trans HX0.out)
      have HX11 := Aside0.mk ((hb10.cell (World.block_lt_of_cell? _ _ HX1.out)).trans HX1.out)
      clear BK2 BK3 HL HV HB HD ho8 HX0 HX1 HCL hb9
      have BK2 := BK21
      have BK3 := BK31
      have HL := HL1
      have HV := HV1
      have HB := HB1
      have HX0 := HX01
      have HX1 := HX11
      clear BK21 BK31 HL1 HV1 HB1 HX01 HX11
      refine hK.out _ _ ⟨(blk_cell BK2.out 0).trans rfl, (blk_cell BK2.out 1).trans rfl, (blk_cell BK2.out 2).trans rfl, (blk_cell BK2.out 3).trans rfl, (blk_cell BK2.out 4).trans rfl, (blk_cell BK2.out 5).trans rfl, (hb10.cell (World.block_lt_of_cell? _ _ HX4.out)).trans HX4.out⟩ (fun hHeld => ?_)
      clear hb8 hb10
      clear hK K
      refine norm_ (a' := ?_) ?_ ?_
      rotate_left
      · show Act.put _ (some 33) _ = _
        simp only [Act.put, List.setIfInBounds_toArray, List.set_cons_zero, List.set_cons_succ, i64_w, i32_w]
        rfl
      refine pure_ (i := 8) (N := (some 7)) (v := ?_) (a' := ?_) #[true, true, true, true, true, true, true, true, true] rfl rfl (any_of HT_.out (by kernel_rfl)) (fun _ _ _ h => h) (Or.inl ⟨by rfl, ?_⟩) ?_ ?_
      rotate_left
      · intro w'
        go_simp
        with_reducible rfl
      rotate_left
      · simp only [Act.put, List.setIfInBounds_toArray, List.set_cons_zero, List.set_cons_succ, i64_w, i32_w]
        rfl
      refine done_ (done_of HT_.out (by kernel_rfl)) ?_
      go_wp2
      clear hHeld
      have hfld : ∀ (v0 v1 : Value) (W : World), (Instr.field 34 (.agg #[v0, v1]) 0).run Tryd.prog W = .ok v0 W := by
        intro v0 v1 W
        first | (go_simp; done) | (go_simp; rfl) | (simp [Instr.field, hu34]; done) | (simp [Instr.field, hu34]; rfl)
      have hbd := below_drew1 (Below.refl w8.heap.size w8)
      refine start_ (n := 17) (S := fun w' => w'.cell? (adL.add (j * 3)) = some (.int .u64 el.f0.f0) ∧ w'.cell? ⟨(adL.add (j * 3)).block, (adL.add (j * 3)).off + 1, none⟩ = some (.int .u64 el.f0.f1) ∧ w'.cell? ⟨gb3, 1, none⟩ = some (.int .u64 a1_1)) (ds := []) #[false, false, false, false, false, false, false, false, false, false, false, false, false, false, false, false, false] (by kernel_rfl) rfl rfl (⟨HX0.out, HX1.out, (blk_cell (blk_drew BK3.out) 1).trans rfl⟩) (fun hHeld => ?_)
      refine with_tabW spec_RangeRoot.tab8 spec_RangeRoot.bits8 (fun HT_ HW_ => ?_)
      refine pure_ (i := 0) (N := (some 34)) (v := ?_) (a' := ?_) #[true, false, false, false, false, false, false, false, false, false, false, false, false, false, false, false, false] rfl rfl (any_of HT_.out (by kernel_rfl)) (fun _ _ _ h => h) (Or.inl ⟨by rfl, ?_⟩) ?_ ?_
      rotate_left
      · intro w'
        go_simp
        with_reducible rfl
      rotate_left
      · simp only [Act.put, List.setIfInBounds_toArray, List.set_cons_zero, List.set_cons_succ, i64_w, i32_w]
        rfl
      refine pure_ (i := 1) (N := (some 35)) (v := ?_) (a' := ?_) #[true, true, false, false, false, false, false, false, false, false, false, false, false, false, false, false, false] rfl rfl (any_of HT_.out (by kernel_rfl)) (fun _ _ _ h => h) (Or.inl ⟨by rfl, ?_⟩) ?_ ?_
      rotate_left
      · intro w'
        go_simp
        with_reducible rfl
      rotate_left
      · simp only [Act.put, List.setIfInBounds_toArray, List.set_cons_zero, List.set_cons_succ, i64_w, i32_w]
        rfl
      refine pure_ (i := 2) (N := (some 36)) (v := ?_) (a' := ?_) #[true, true, true, false, false, false, false, false, false, false, false, false, false, false, false, false, false] rfl rfl (any_of HT_.out (by kernel_rfl)) (fun _ _ _ h => h) (Or.inl ⟨by rfl, ?_⟩) ?_ ?_
      rotate_left
      · intro w'
        go_simp
        with_reducible rfl
      rotate_left
      · simp only [Act.put, List.setIfInBounds_toArray, List.set_cons_zero, List.set_cons_succ, i64_w, i32_w]
        rfl
      refine pure_ (i := 3) (N := (some 37)) (v := ?_) (a' := ?_) #[true, true, true, true, false, false, false, false, false, false, false, false, false, false, false, false, false] rfl rfl (any_of HT_.out (by kernel_rfl)) (fun _ _ _ h => h) (Or.inl ⟨by rfl, ?_⟩) ?_ ?_
      rotate_left
      · intro w'
        go_simp
        with_reducible rfl
      rotate_left
      · simp only [Act.put, List.setIfInBounds_toArray, List.set_cons_zero, List.set_cons_succ, i64_w, i32_w]
        rfl
      refine pure_ (i := 4) (N := (some 38)) (v := ?_) (a' := ?_) #[true, true, true, true, true, false, false, false, false, false, false, false, false, false, false, false, false] rfl rfl (any_of HT_.out (by kernel_rfl)) (fun _ _ _ h => h) (Or.inl ⟨by rfl, ?_⟩) ?_ ?_
      rotate_left
      · intro w'
        go_simp
        with_reducible rfl
      rotate_left
      · simp only [Act.put, List.setIfInBounds_toArray, List.set_cons_zero, List.set_cons_succ, i64_w, i32_w]
        rfl
      refine take_ (i := 5) (N := (some 39)) (v := ?_) (a' := ?_) #[true, true, true, true, true, true, false, false, false, false, false, false, false, false, false, false, false] rfl rfl (take_ofW HT_.out HW_.out (by kernel_rfl)) (fun _ _ _ h => h) (Or.inl ⟨by rfl, ?_⟩) hHeld ?_ ?_
      rotate_left
      · rintro w' ⟨s0, s1, s2⟩
        go_simp
        with_reducible rfl
      rotate_left
      · simp only [Act.put, List.setIfInBounds_toArray, List.set_cons_zero, List.set_cons_succ, i64_w, i32_w]
        rfl
      refine pure_ (i := 8) (N := (some 42)) (v := ?_) (a' := ?_) #[true, true, true, true, true, true, false, false, true, false, false, false, false, false, false, false, false] rfl rfl (any_of HT_.out (by kernel_rfl)) (fun _ _ _ h => h) (Or.inl ⟨by rfl, ?_⟩) ?_ ?_
      rotate_left
      · intro w'
        go_simp
        with_reducible rfl
      rotate_left
      · simp only [Act.put, List.setIfInBounds_toArray, List.set_cons_zero, List.set_cons_succ, i64_w, i32_w]
        rfl
      refine take_ (i := 9) (N := (some 43)) (v := ?_) (a' := ?_) #[true, true, true, true, true, true, false, false, true, true, false, false, false, false, false, false, false] rfl rfl (take_ofW HT_.out HW_.out (by kernel_rfl)) (fun _ _ _ h => h) (Or.inl ⟨by rfl, ?_⟩) hHeld ?_ ?_
      rotate_left
      · rintro w' ⟨s0, s1, s2⟩
        go_simp
        with_reducible rfl
      rotate_left
      · simp only [Act.put, List.setIfInBounds_toArray, List.set_cons_zero, List.set_cons_succ, i64_w, i32_w]
        rfl
      refine pure_ (i := 12) (N := (some 46)) (v := ?_) (a' := ?_) #[true, true, true, true, true, true, false, false, true, true, false, false, true, false, false, false, false] rfl rfl (any_of HT_.out (by kernel_rfl)) (fun _ _ _ h => h) (Or.inl ⟨by rfl, ?_⟩) ?_ ?_
      rotate_left
      · intro w'
        go_simp
        with_reducible rfl
      rotate_left
      · simp only [Act.put, List.setIfInBounds_toArray, List.set_cons_zero, List.set_cons_succ, i64_w, i32_w]
        rfl
      refine one_ (i := 6) (N := (some 40)) #[true, true, true, true, true, true, true, false, true, true, false, false, true, false, false, false, false] rfl rfl (one_of HT_.out (by kernel_rfl)) (by decide) (fun K hK => ?_)
      refine goes_ Tryd.func41 (by kernel_rfl) rfl #[.agg #[.int .u64 el.f0.f0, .int .u64 el.f0.f1]] (by rfl) rfl rfl (by (try simp only [List.map_toArray, List.map_cons, List.map_nil]); first | done | rfl) ?_
      with_reducible refine (spec_Leaves.calls _ _ _ _ _ HA2.out).mono ?_
      rintro e9 w9 ⟨rfl, hb9⟩
      refine ⟨_, rfl, ?_⟩
      have hb10 : Below w8.heap.size w8 w9 := below_step hbd hb9
      have BK31 := Aside0.mk (blk_below BK3.out hb10)
      have HX01 := Aside0.mk ((hb10.cell (World.block_lt_of_cell? _ _ HX0.out)).trans HX0.out)
      have HX11 := Aside0.mk ((hb10.cell (World.block_lt_of_cell? _ _ HX1.out)).trans HX1.out)
      have HB9 := Aside0.mk hb10
      clear hb9 hbd hb10
      refine hK.out _ _ ⟨HX01.out, HX11.out, (blk_cell BK31.out 1).trans rfl⟩ (fun hHeld => ?_)
      clear hK K
      refine norm_ (a' := ?_) ?_ ?_
      rotate_left
      · show Act.put _ (some 40) _ = _
        simp only [Act.put, List.setIfInBounds_toArray, List.set_cons_zero, List.set_cons_succ, i64_w, i32_w]
        rfl
      refine pure_ (i := 7) (N := (some 41)) (v := ?_) (a' := ?_) #[true, true, true, true, true, true, true, true, true, true, false, false, true, false, false, false, false] rfl rfl (any_of HT_.out (by kernel_rfl)) (fun _ _ _ h => h) (Or.inl ⟨by rfl, ?_⟩) ?_ ?_
      rotate_left
      · intro w'
        go_simp
        with_reducible rfl
      rotate_left
      · simp only [Act.put, List.setIfInBounds_toArray, List.set_cons_zero, List.set_cons_succ, i64_w, i32_w]
        rfl
      refine pure_ (i := 10) (N := (some 44)) (v := ?_) (a' := ?_) #[true, true, true, true, true, true, true, true, true, true, true, false, true, false, false, false, false] rfl rfl (any_of HT_.out (by kernel_rfl)) (fun _ _ _ h => h) (Or.inl ⟨by rfl, ?_⟩) ?_ ?_
      rotate_left
      · intro w'
        go_simp
        with_reducible rfl
      rotate_left
      · simp only [Act.put, List.setIfInBounds_toArray, List.set_cons_zero, List.set_cons_succ, i64_w, i32_w]
        rfl
      refine one_ (i := 11) (N := (some 45)) #[true, true, true, true, true, true, true, true, true, true, true, true, true, false, false, false, false] rfl rfl (one_of HT_.out (by kernel_rfl)) (by decide) (fun K hK => ?_)
      refine goes_ Tryd.func76 (by kernel_rfl) rfl #[.agg #[.int .u64 p1, .int .u64 a1_1]] (by rfl) rfl rfl (by (try simp only [List.map_toArray, List.map_cons, List.map_nil]); first | done | rfl) ?_
      with_reducible refine (spec_Covering.calls _ _ _ _ _ _ HA3.out).mono ?_
      rintro e10 w10 ⟨rfl, hb10⟩
      refine ⟨_, rfl, ?_⟩
      have hb11 : Below w8.heap.size w8 w10 := below_step HB9.out hb10
      have BK32 := Aside0.mk (blk_below BK31.out hb10)
      have HX02 := Aside0.mk ((hb10.cell (World.block_lt_of_cell? _ _ HX01.out)).trans HX01.out)
      have HX12 := Aside0.mk ((hb10.cell (World.block_lt_of_cell? _ _ HX11.out)).trans HX11.out)
      have BK21 := Aside0.mk (blk_below BK2.out hb11)
      have HL1 := Aside0.mk (Kd.F_below HL.out hb11)
      have HV1 := Aside0.mk (Kd.N_below HV.out hb11)
      have HD1 := Aside0.mk (Kd.F_below HD8.out hb11)
      have HB1 := Aside0.mk (below_step HB.out hb11)
      have HSZ1 := Aside0.mk hb11.size
      clear hb10 hb11 BK2 BK3 BK31 HX0 HX1 HX01 HX11 HL HV HD8 HB HB9
      have BK2 := BK21
      have BK3 := BK32
      have HX0 := HX02
      have HX1 := HX12
      have HL := HL1
      have HV := HV1
      have HD8 := HD1
      have HB := HB1
      clear BK21 BK32 HX02 HX12 HL1 HV1 HD1 HB1
      refine hK.out _ _ ⟨HX0.out, HX1.out, (blk_cell BK3.out 1).trans rfl⟩ (fun hHeld => ?_)
      clear hK K
      refine norm_ (a' := ?_) ?_ ?_
      rotate_left
      · show Act.put _ (some 45) _ = _
        simp only [Act.put, List.setIfInBounds_toArray, List.set_cons_zero, List.set_cons_succ, i64_w, i32_w]
        rfl
      refine pure_ (i := 13) (N := (some 47)) (v := ?_) (a' := ?_) #[true, true, true, true, true, true, true, true, true, true, true, true, true, true, false, false, false] rfl rfl (any_of HT_.out (by kernel_rfl)) (fun _ _ _ h => h) (Or.inl ⟨by rfl, ?_⟩) ?_ ?_
      rotate_left
      · intro w'
        go_simp
        with_reducible rfl
      rotate_left
      · simp only [Act.put, List.setIfInBounds_toArray, List.set_cons_zero, List.set_cons_succ, i64_w, i32_w]
        rfl
      refine one_ (i := 14) (N := (some 48)) #[true, true, true, true, true, true, true, true, true, true, true, true, true, true, true, false, false] rfl rfl (one_of HT_.out (by kernel_rfl)) (by decide) (fun K hK => ?_)
      refine value_ (w1 := w10.alloc (.cells #[.int .u64 q1, .int .u64 q2, .slice A5 t.length c5] 88)) (v := .slice (some ⟨w10.heap.size, 0, none⟩) 1 1) (by rfl) rfl (by first | (go_simp; done) | (go_simp; rfl)) ?_
      refine hK.out _ _ ⟨((below_alloc (Below.refl _ _) _).cell (World.block_lt_of_cell? _ _ HX0.out)).trans HX0.out, ((below_alloc (Below.refl _ _) _).cell (World.block_lt_of_cell? _ _ HX1.out)).trans HX1.out, (blk_cell (blk_alloc BK3.out _) 1).trans rfl⟩ (fun hHeld => ?_)
      clear hK K
      refine norm_ (a' := ?_) ?_ ?_
      rotate_left
      · show Act.put _ (some 48) _ = _
        simp only [Act.put, List.setIfInBounds_toArray, List.set_cons_zero, List.set_cons_succ, i64_w, i32_w]
        rfl
      refine one_ (i := 15) (N := (some 49)) #[true, true, true, true, true, true, true, true, true, true, true, true, true, true, true, true, false] rfl rfl (one_of HT_.out (by kernel_rfl)) (by decide) (fun K hK => ?_)
      refine Kd.N_append_step k88 (w0 := w) w.heap.size (by rfl) (.tmp 34) (.tmp 48) 43 88 (.agg #[.int .u64 0, .int .u64 0, .slice none 0 0]) 40 rfl Tryd.underlying43 info88 rfl (by decide) (by omega) vs L1 ⟨⟨q1, q2⟩, t⟩ [.int .u64 q1, .int .u64 q2, .slice A5 t.length c5] (fun k => P1_2_ k ∨ w.heap.size ≤ k) (fun k => (P1_2_ k ∨ w.heap.size ≤ k) ∧ some k ≠ vs.ownBlock) rfl rfl (k88_mkF w10 _ ⟨⟨q1, q2⟩, t⟩ HC5.out HD8.out) (fun k hk => hk) (fun k hk => Or.inr (Nat.le_trans HB.out.size hk)) HV.out HB.out HB.out.size (by omega) ?_
      intro v1 w11 ho11 hb11 hg11 hat11
      have HV1 := Aside0.mk ho11
      have HD1 := Aside0.mk (Kd.F_after HD8.out hg11 hat11)
      have HL1 := Aside0.mk (Kd.F_after HL.out hg11 hat11)
      have HNE := Aside0.mk (And.intro (Kd.N_ne HV.out BK2.out (by decide)) (Kd.N_ne HV.out BK3.out (by decide)))
      have BK21 := Aside0.mk (blk_grown BK2.out hg11 HNE.out.1)
      have BK31 := Aside0.mk (blk_grown BK3.out hg11 HNE.out.2)
      have HB1 := Aside0.mk hb11
      have HXL := Aside0.mk (show some (adL.add (j * 3)).block ≠ vs.ownBlock from fun he => by
        obtain ⟨ad9, _, hA9, _, _, _, hok9⟩ := Kd.F_get HL.out z88 (j : Int) (by omega) (by omega)
        injection hA9 with hA9
        subst hA9
        exact (hok9 (by decide)).2 (by have e9 : (adL.add (j * 3)).block = adL.block := (by unfold Addr.add; first | rfl | (split <;> rfl)); rw [← e9]; exact he))
      have HX01 := Aside0.mk (cell_grown hg11 HX0.out HXL.out)
      have HX11 := Aside0.mk (cell_grown (a := ⟨(adL.add (j * 3)).block, (adL.add (j * 3)).off + 1, none⟩) hg11 HX1.out HXL.out)
      clear ho11 hb11 hg11 hat11 HV HD8 HL BK2 BK3 HB
      refine hK.out _ _ ⟨HX01.out, HX11.out, (blk_cell BK31.out 1).trans rfl⟩ (fun hHeld => ?_)
      clear hK K
      refine norm_ (a' := ?_) ?_ ?_
      rotate_left
      · show Act.put _ (some 49) _ = _
        simp only [Act.put, List.setIfInBounds_toArray, List.set_cons_zero, List.set_cons_succ, i64_w, i32_w]
        rfl
      refine pure_ (i := 16) (N := (some 8)) (v := ?_) (a' := ?_) #[true, true, true, true, true, true, true, true, true, true, true, true, true, true, true, true, true] rfl rfl (any_of HT_.out (by kernel_rfl)) (fun _ _ _ h => h) (Or.inl ⟨by rfl, ?_⟩) ?_ ?_
      rotate_left
      · intro w'
        go_simp
        with_reducible rfl
      rotate_left
      · simp only [Act.put, List.setIfInBounds_toArray, List.set_cons_zero, List.set_cons_succ, i64_w, i32_w]
        rfl
      refine done_ (done_of HT_.out (by kernel_rfl)) ?_
      go_wp2
      go_roundg j
      case measure => omega
      case rel => exact ⟨t, A5, c5, (j : Int) - 1, v1, L1 ++ [⟨⟨q1, q2⟩, t⟩], rfl, rfl, rfl, ⟨by omega, by have := HQ.out; omega, HC5.out, by have := HQ.out; rw [List.length_append, List.length_singleton]; omega⟩, HRR1, BK21, BK31, HL1, HD1, HV1, HB1⟩
def spec_SameText.f (l0 : List Int) (l1 : List Int) : Option (Bool) := some ((strOfNums l0).toList == (strOfNums l1).toList)
set_option maxHeartbeats 8000000 in
set_option maxRecDepth 100000 in
theorem spec_SameText.calls (A0 : Option Addr) (c0 : Nat) (l0 : List Int) (A1 : Option Addr) (c1 : Nat) (l1 : List Int) (r : Bool) (w : World) (hr0 : Kd.C (Kd.int .u8) w A0 l0.length l0) (hc0 : l0.length ≤ c0) (hr1 : Kd.C (Kd.int .u8) w A1 l1.length l1) (hc1 : l1.length ≤ c1) (h : spec_SameText.f l0 l1 = some r) :
    Calls Tryd.prog 25 #[.slice A0 l0.length c0, .slice A1 l1.length c1] w fun e w' => e = .returned (.bool r) ∧ Drawn0 w w' := by
  have HR0 := Aside0.mk hr0
  have HC0 := Aside0.mk hc0
  clear hr0 hc0
  have HR1 := Aside0.mk hr1
  have HC1 := Aside0.mk hc1
  clear hr1 hc1
  have H : (some ((strOfNums l0).toList == (strOfNums l1).toList)) = some r := h
  clear h
  obtain rfl := Option.some.inj H
  have hcv3 := Kd.C_string (P := Tryd.prog) (A := A0) (c := c0) Tryd.underlying42 Tryd.underlying5 Tryd.underlying9 HR0.out
  have hcv4 := fun n_ => Kd.C_string (P := Tryd.prog) (A := A0) (c := c0) Tryd.underlying42 Tryd.underlying5 Tryd.underlying9 (Kd.C_drewN HR0.out n_)
  have hcv5 := fun n_ m_ => Kd.C_string (P := Tryd.prog) (A := A0) (c := c0) Tryd.underlying42 Tryd.underlying5 Tryd.underlying9 (Kd.C_drewN (Kd.C_drewN HR0.out n_) m_)
  have hcv6 := Kd.C_string (P := Tryd.prog) (A := A1) (c := c1) Tryd.underlying42 Tryd.underlying5 Tryd.underlying9 HR1.out
  have hcv7 := fun n_ => Kd.C_string (P := Tryd.prog) (A := A1) (c := c1) Tryd.underlying42 Tryd.underlying5 Tryd.underlying9 (Kd.C_drewN HR1.out n_)
  have hcv8 := fun n_ m_ => Kd.C_string (P := Tryd.prog) (A := A1) (c := c1) Tryd.underlying42 Tryd.underlying5 Tryd.underlying9 (Kd.C_drewN (Kd.C_drewN HR1.out n_) m_)
  go_enter Tryd.func25, Tryd.ntmps25
  go_wp2
  go_ret
  exact ⟨by first | rfl | (simp; done) | (simp [*]; done), by repeat (first | exact Drawn0.refl _ | apply Drawn0.step)⟩
def spec_SameVisits.l0 : Nat → List (S88) → List (S88) → Int → Int → Option (Bool)
  | 0, _, _, _, _ => none
  | k + 1, x0, x1, x12, x13 => if x13 < x12 then (if 0 ≤ x13 then (if x13 < (x0.length : Int) then (if x13 < (x1.length : Int) then (if (!(((rd_T88 x0 x13).f0.f0) == ((rd_T88 x1 x13).f0.f0)) || (!(((rd_T88 x0 x13).f0.f1) == ((rd_T88 x1 x13).f0.f1)))) = true then (some false) else (if (strOfNums ((rd_T88 x0 x13).f1)).toList = (strOfNums ((rd_T88 x1 x13).f1)).toList then (spec_SameVisits.l0 k x0 x1 x12 (wrap64 (x13 + 1))) else (some false))) else (none)) else (none)) else (none)) else (some true)
def spec_SameVisits.f (k : Nat) (l0 : List (S88)) (l1 : List (S88)) : Option (Bool) := if (l0.length : Int) = (l1.length : Int) then (spec_SameVisits.l0 k l0 l1 (l0.length : Int) 0) else (some false)
theorem spec_SameVisits.mono_l : ∀ k, (∀ y0 y1 y2 y3, LeO (spec_SameVisits.l0 k y0 y1 y2 y3) (spec_SameVisits.l0 (k + 1) y0 y1 y2 y3))
  | 0 => fun _ _ _ _ r h => by simp [spec_SameVisits.l0] at h
  | k + 1 => by
    have ih0 := spec_SameVisits.mono_l k
    · intro y0 y1 y2 y3
      unfold spec_SameVisits.l0
      repeat' first
      | (with_reducible exact ih0 _ _ _ _)
      | (with_reducible exact LeO.refl _)
      | (with_reducible exact LeO.none _)
      | (with_reducible refine LeO.ite ?_ ?_)
      | (with_reducible refine LeO.bind ?_ (fun _ => ?_))
      | exact ih0 _ _ _ _
      | exact LeO.none _
      | refine LeO.ite ?_ ?_
      | refine LeO.bind ?_ (fun _ => ?_)
theorem spec_SameVisits.mono : ∀ a0 a1 k, LeO (spec_SameVisits.f k a0 a1) (spec_SameVisits.f (k + 1) a0 a1) := by
  intro a0 a1 k
  have ih0 := spec_SameVisits.mono_l k
  unfold spec_SameVisits.f
  repeat' first
      | (with_reducible exact ih0 _ _ _ _)
      | (with_reducible exact LeO.refl _)
      | (with_reducible exact LeO.none _)
      | (with_reducible refine LeO.ite ?_ ?_)
      | (with_reducible refine LeO.bind ?_ (fun _ => ?_))
      | exact ih0 _ _ _ _
      | exact LeO.none _
      | refine LeO.ite ?_ ?_
      | refine LeO.bind ?_ (fun _ => ?_)
set_option maxHeartbeats 8000000 in
set_option maxRecDepth 100000 in
theorem spec_SameVisits.calls (k : Nat) (A0 : Option Addr) (c0 : Nat) (l0 : List (S88)) (A1 : Option Addr) (c1 : Nat) (l1 : List (S88)) (r : Bool) (w : World) (hr0 : Kd.C k88 w A0 l0.length l0) (hc0 : l0.length ≤ c0) (hr1 : Kd.C k88 w A1 l1.length l1) (hc1 : l1.length ≤ c1) (h : spec_SameVisits.f k l0 l1 = some r) :
    Calls Tryd.prog 26 #[.slice A0 l0.length c0, .slice A1 l1.length c1] w fun e w' => e = .returned (.bool r) ∧ Drawn0 w w' := by
  have hu70 := Tryd.underlying70
  have HR0 := Aside0.mk hr0
  have HC0 := Aside0.mk hc0
  clear hr0 hc0
  have HR1 := Aside0.mk hr1
  have HC1 := Aside0.mk hc1
  clear hr1 hc1
  have H : (if (l0.length : Int) = (l1.length : Int) then (spec_SameVisits.l0 k l0 l1 (l0.length : Int) 0) else (some false)) = some r := h
  clear h
  by_cases c3 : (l0.length : Int) = (l1.length : Int)
  · rw [if_pos c3] at H
    have c3b0 : ((l0.length : Int) == (l1.length : Int)) = true := beq_iff_eq.mpr c3
    have c3b1 : ((l0.length : Int) != (l1.length : Int)) = false := bne_eq_false_iff_eq.mpr c3
    have c3b2 : (l0.length == l1.length) = true := by first | simpa using c3 | (simp at c3 ⊢; omega)
    clear c3
    have H' := Aside0.mk H
    clear H
    go_enter Tryd.func26, Tryd.ntmps26
    go_wp2
    repeat (go_quiet (fail); try go_wp2)
    try simp only [Act.put, List.setIfInBounds_toArray, List.set_cons_zero, List.set_cons_succ]
    go_loopg [13] k (fun kq v13 w' => ∃ (x13_1 : Int), v13 = .int .i64 x13_1 ∧ Aside0 (spec_SameVisits.l0 kq l0 l1 (l0.length : Int) x13_1 = some r) ∧ Aside0 (kq ≤ k) ∧ Drawn0 w w')
    case atStart => exact ⟨(0), (by first | rfl | (simp; done) | (simp [*]; done)), H', ⟨Nat.le_refl _⟩, by repeat (first | exact Drawn0.refl _ | apply Drawn0.step)⟩
    case round =>
      clear H'
      try clear c1
      try clear c2
      try clear p2
      try clear c3
      try clear c3b0
      try clear c3b1
      try clear c3b2
      obtain ⟨x13_1, rfl, HA, HK1, ⟨m1, rfl⟩⟩ := hrel
      cases gk with
      | zero => exact absurd HA.out (by simp [spec_SameVisits.l0])
      | succ k1 =>
        have H := HA.out
        clear HA
        simp only [spec_SameVisits.l0] at H
        by_cases c4 : x13_1 < (l0.length : Int)
        · rw [if_pos c4] at H
          have c4b0 : decide (x13_1 < (l0.length : Int)) = true := decide_eq_true c4
          clear c4
          by_cases c5 : 0 ≤ x13_1
          · rw [if_pos c5] at H
            have c5b0 : decide (0 ≤ x13_1) = true := decide_eq_true c5
            clear c5
            by_cases c6 : x13_1 < (l0.length : Int)
            · rw [if_pos c6] at H
              have c6b0 : decide (x13_1 < (l0.length : Int)) = true := decide_eq_true c6
              clear c6
              by_cases c7 : x13_1 < (l1.length : Int)
              · rw [if_pos c7] at H
                have c7b0 : decide (x13_1 < (l1.length : Int)) = true := decide_eq_true c7
                clear c7
                by_cases c8 : (!(((rd_T88 l0 x13_1).f0.f0) == ((rd_T88 l1 x13_1).f0.f0)) || (!(((rd_T88 l0 x13_1).f0.f1) == ((rd_T88 l1 x13_1).f0.f1)))) = true
                · rw [if_pos c8] at H
                  have c8b0 : (!(((rd_T88 l0 x13_1).f0.f0) == ((rd_T88 l1 x13_1).f0.f0)) || (!(((rd_T88 l0 x13_1).f0.f1) == ((rd_T88 l1 x13_1).f0.f1)))) = true := c8
                  clear c8
                  obtain rfl := Option.some.inj H
                  have p226 : 0 ≤ (x13_1 : Int) := of_decide_eq_true (by first | (with_reducible assumption) | assumption)
                  have q226 : x13_1 < (l0.length : Int) := of_decide_eq_true (by first | (with_reducible assumption) | assumption)
                  obtain ⟨ad226, A226_2, c226_2, e226, hx226_0, hx226_1, hx226_2, hl226_2, hi226_2⟩ := at_T88 HR0.out x13_1 p226 q226
                  cases e226
                  have HR226_2 := Aside0.mk hi226_2
                  have HC226_2 := Aside0.mk hl226_2
                  clear hi226_2 hl226_2
                  replace p226 := eq_true p226
                  replace q226 := eq_true q226
                  have p227 : 0 ≤ (x13_1 : Int) := of_decide_eq_true (by first | (with_reducible assumption) | assumption)
                  have q227 : x13_1 < (l1.length : Int) := of_decide_eq_true (by first | (with_reducible assumption) | assumption)
                  obtain ⟨ad227, A227_2, c227_2, e227, hx227_0, hx227_1, hx227_2, hl227_2, hi227_2⟩ := at_T88 HR1.out x13_1 p227 q227
                  cases e227
                  have HR227_2 := Aside0.mk hi227_2
                  have HC227_2 := Aside0.mk hl227_2
                  clear hi227_2 hl227_2
                  replace p227 := eq_true p227
                  replace q227 := eq_true q227
                  go_wp2
                  repeat (go_quiet (fail); try go_wp2)
                  go_ret
                  exact ⟨by first | rfl | (simp; done) | (simp [*]; done), by repeat (first | exact Drawn0.refl _ | apply Drawn0.step)⟩
                · rw [if_neg c8] at H
                  have c8b0 : (!(((rd_T88 l0 x13_1).f0.f0) == ((rd_T88 l1 x13_1).f0.f0)) || (!(((rd_T88 l0 x13_1).f0.f1) == ((rd_T88 l1 x13_1).f0.f1)))) = false := by simpa using c8
                  clear c8
                  by_cases c9 : (strOfNums ((rd_T88 l0 x13_1).f1)).toList = (strOfNums ((rd_T88 l1 x13_1).f1)).toList
                  · rw [if_pos c9] at H
                    have c9b0 : ((strOfNums ((rd_T88 l0 x13_1).f1)).toList == (strOfNums ((rd_T88 l1 x13_1).f1)).toList) = true := beq_iff_eq.mpr c9
                    have c9b1 : ((strOfNums ((rd_T88 l0 x13_1).f1)).toList != (strOfNums ((rd_T88 l1 x13_1).f1)).toList) = false := bne_eq_false_iff_eq.mpr c9
                    clear c9
                    have H' := Aside0.mk H
                    clear H
                    have p226 : 0 ≤ (x13_1 : Int) := of_decide_eq_true (by first | (with_reducible assumption) | assumption)
                    have q226 : x13_1 < (l0.length : Int) := of_decide_eq_true (by first | (with_reducible assumption) | assumption)
                    obtain ⟨ad226, A226_2, c226_2, e226, hx226_0, hx226_1, hx226_2, hl226_2, hi226_2⟩ := at_T88 HR0.out x13_1 p226 q226
                    cases e226
                    have HR226_2 := Aside0.mk hi226_2
                    have HC226_2 := Aside0.mk hl226_2
                    clear hi226_2 hl226_2
                    replace p226 := eq_true p226
                    replace q226 := eq_true q226
                    have p227 : 0 ≤ (x13_1 : Int) := of_decide_eq_true (by first | (with_reducible assumption) | assumption)
                    have q227 : x13_1 < (l1.length : Int) := of_decide_eq_true (by first | (with_reducible assumption) | assumption)
                    obtain ⟨ad227, A227_2, c227_2, e227, hx227_0, hx227_1, hx227_2, hl227_2, hi227_2⟩ := at_T88 HR1.out x13_1 p227 q227
                    cases e227
                    have HR227_2 := Aside0.mk hi227_2
                    have HC227_2 := Aside0.mk hl227_2
                    clear hi227_2 hl227_2
                    replace p227 := eq_true p227
                    replace q227 := eq_true q227
                    have p228 : 0 ≤ (x13_1 : Int) := of_decide_eq_true (by first | (with_reducible assumption) | assumption)
                    have q228 : x13_1 < (l0.length : Int) := of_decide_eq_true (by first | (with_reducible assumption) | assumption)
                    obtain ⟨ad228, A228_2, c228_2, e228, hx228_0, hx228_1, hx228_2, hl228_2, hi228_2⟩ := at_T88 HR0.out x13_1 p228 q228
                    obtain rfl : ad226 = ad228 := (by injection e228)
                    have HR228_2 := Aside0.mk hi228_2
                    have HC228_2 := Aside0.mk hl228_2
                    clear hi228_2 hl228_2
                    replace p228 := eq_true p228
                    replace q228 := eq_true q228
                    have ea_ := Option.some.inj (hx226_2.symm.trans hx228_2)
                    injection ea_ with ea_ en_ ec_
                    subst ea_
                    subst ec_
                    clear en_
                    have hcv10 := Kd.C_string (P := Tryd.prog) (A := A226_2) (c := c226_2) Tryd.underlying42 Tryd.underlying5 Tryd.underlying9 HR228_2.out
                    have hcv11 := fun n_ => Kd.C_string (P := Tryd.prog) (A := A226_2) (c := c226_2) Tryd.underlying42 Tryd.underlying5 Tryd.underlying9 (Kd.C_drewN HR228_2.out n_)
                    have hcv12 := fun n_ m_ => Kd.C_string (P := Tryd.prog) (A := A226_2) (c := c226_2) Tryd.underlying42 Tryd.underlying5 Tryd.underlying9 (Kd.C_drewN (Kd.C_drewN HR228_2.out n_) m_)
                    have p229 : 0 ≤ (x13_1 : Int) := of_decide_eq_true (by first | (with_reducible assumption) | assumption)
                    have q229 : x13_1 < (l1.length : Int) := of_decide_eq_true (by first | (with_reducible assumption) | assumption)
                    obtain ⟨ad229, A229_2, c229_2, e229, hx229_0, hx229_1, hx229_2, hl229_2, hi229_2⟩ := at_T88 HR1.out x13_1 p229 q229
                    obtain rfl : ad227 = ad229 := (by injection e229)
                    have HR229_2 := Aside0.mk hi229_2
                    have HC229_2 := Aside0.mk hl229_2
                    clear hi229_2 hl229_2
                    replace p229 := eq_true p229
                    replace q229 := eq_true q229
                    have ea_ := Option.some.inj (hx227_2.symm.trans hx229_2)
                    injection ea_ with ea_ en_ ec_
                    subst ea_
                    subst ec_
                    clear en_
                    have hcv13 := Kd.C_string (P := Tryd.prog) (A := A227_2) (c := c227_2) Tryd.underlying42 Tryd.underlying5 Tryd.underlying9 HR229_2.out
                    have hcv14 := fun n_ => Kd.C_string (P := Tryd.prog) (A := A227_2) (c := c227_2) Tryd.underlying42 Tryd.underlying5 Tryd.underlying9 (Kd.C_drewN HR229_2.out n_)
                    have hcv15 := fun n_ m_ => Kd.C_string (P := Tryd.prog) (A := A227_2) (c := c227_2) Tryd.underlying42 Tryd.underlying5 Tryd.underlying9 (Kd.C_drewN (Kd.C_drewN HR229_2.out n_) m_)
                    go_wp2
                    repeat (go_quiet (fail); try go_wp2)
                    go_roundg k1
                    case measure => have := HK1.out; omega
                    case rel => exact ⟨(wrap64 (x13_1 + 1)), (by first | rfl | (simp; done) | (simp [*]; done)), H', ⟨by have := HK1.out; omega⟩, by repeat (first | exact Drawn0.refl _ | apply Drawn0.step)⟩
                  · rw [if_neg c9] at H
                    have c9b0 : ((strOfNums ((rd_T88 l0 x13_1).f1)).toList == (strOfNums ((rd_T88 l1 x13_1).f1)).toList) = false := beq_eq_false_iff_ne.mpr c9
                    have c9b1 : ((strOfNums ((rd_T88 l0 x13_1).f1)).toList != (strOfNums ((rd_T88 l1 x13_1).f1)).toList) = true := bne_iff_ne.mpr c9
                    obtain rfl := Option.some.inj H
                    have p226 : 0 ≤ (x13_1 : Int) := of_decide_eq_true (by first | (with_reducible assumption) | assumption)
                    have q226 : x13_1 < (l0.length : Int) := of_decide_eq_true (by first | (with_reducible assumption) | assumption)
                    obtain ⟨ad226, A226_2, c226_2, e226, hx226_0, hx226_1, hx226_2, hl226_2, hi226_2⟩ := at_T88 HR0.out x13_1 p226 q226
                    cases e226
                    have HR226_2 := Aside0.mk hi226_2
                    have HC226_2 := Aside0.mk hl226_2
                    clear hi226_2 hl226_2
                    replace p226 := eq_true p226
                    replace q226 := eq_true q226
                    have p227 : 0 ≤ (x13_1 : Int) := of_decide_eq_true (by first | (with_reducible assumption) | assumption)
                    have q227 : x13_1 < (l1.length : Int) := of_decide_eq_true (by first | (with_reducible assumption) | assumption)
                    obtain ⟨ad227, A227_2, c227_2, e227, hx227_0, hx227_1, hx227_2, hl227_2, hi227_2⟩ := at_T88 HR1.out x13_1 p227 q227
                    cases e227
                    have HR227_2 := Aside0.mk hi227_2
                    have HC227_2 := Aside0.mk hl227_2
                    clear hi227_2 hl227_2
                    replace p227 := eq_true p227
                    replace q227 := eq_true q227
                    have p228 : 0 ≤ (x13_1 : Int) := of_decide_eq_true (by first | (with_reducible assumption) | assumption)
                    have q228 : x13_1 < (l0.length : Int) := of_decide_eq_true (by first | (with_reducible assumption) | assumption)
                    obtain ⟨ad228, A228_2, c228_2, e228, hx228_0, hx228_1, hx228_2, hl228_2, hi228_2⟩ := at_T88 HR0.out x13_1 p228 q228
                    obtain rfl : ad226 = ad228 := (by injection e228)
                    have HR228_2 := Aside0.mk hi228_2
                    have HC228_2 := Aside0.mk hl228_2
                    clear hi228_2 hl228_2
                    replace p228 := eq_true p228
                    replace q228 := eq_true q228
                    have ea_ := Option.some.inj (hx226_2.symm.trans hx228_2)
                    injection ea_ with ea_ en_ ec_
                    subst ea_
                    subst ec_
                    clear en_
                    have hcv16 := Kd.C_string (P := Tryd.prog) (A := A226_2) (c := c226_2) Tryd.underlying42 Tryd.underlying5 Tryd.underlying9 HR228_2.out
                    have hcv17 := fun n_ => Kd.C_string (P := Tryd.prog) (A := A226_2) (c := c226_2) Tryd.underlying42 Tryd.underlying5 Tryd.underlying9 (Kd.C_drewN HR228_2.out n_)
                    have hcv18 := fun n_ m_ => Kd.C_string (P := Tryd.prog) (A := A226_2) (c := c226_2) Tryd.underlying42 Tryd.underlying5 Tryd.underlying9 (Kd.C_drewN (Kd.C_drewN HR228_2.out n_) m_)
                    have p229 : 0 ≤ (x13_1 : Int) := of_decide_eq_true (by first | (with_reducible assumption) | assumption)
                    have q229 : x13_1 < (l1.length : Int) := of_decide_eq_true (by first | (with_reducible assumption) | assumption)
                    obtain ⟨ad229, A229_2, c229_2, e229, hx229_0, hx229_1, hx229_2, hl229_2, hi229_2⟩ := at_T88 HR1.out x13_1 p229 q229
                    obtain rfl : ad227 = ad229 := (by injection e229)
                    have HR229_2 := Aside0.mk hi229_2
                    have HC229_2 := Aside0.mk hl229_2
                    clear hi229_2 hl229_2
                    replace p229 := eq_true p229
                    replace q229 := eq_true q229
                    have ea_ := Option.some.inj (hx227_2.symm.trans hx229_2)
                    injection ea_ with ea_ en_ ec_
                    subst ea_
                    subst ec_
                    clear en_
                    have hcv19 := Kd.C_string (P := Tryd.prog) (A := A227_2) (c := c227_2) Tryd.underlying42 Tryd.underlying5 Tryd.underlying9 HR229_2.out
                    have hcv20 := fun n_ => Kd.C_string (P := Tryd.prog) (A := A227_2) (c := c227_2) Tryd.underlying42 Tryd.underlying5 Tryd.underlying9 (Kd.C_drewN HR229_2.out n_)
                    have hcv21 := fun n_ m_ => Kd.C_string (P := Tryd.prog) (A := A227_2) (c := c227_2) Tryd.underlying42 Tryd.underlying5 Tryd.underlying9 (Kd.C_drewN (Kd.C_drewN HR229_2.out n_) m_)
                    go_wp2
                    repeat (go_quiet (fail); try go_wp2)
                    go_ret
                    exact ⟨by first | rfl | (simp; done) | (simp [*]; done), by repeat (first | exact Drawn0.refl _ | apply Drawn0.step)⟩
              · rw [if_neg c7] at H
                exact absurd H (by simp)
            · rw [if_neg c6] at H
              exact absurd H (by simp)
          · rw [if_neg c5] at H
            exact absurd H (by simp)
        · rw [if_neg c4] at H
          have c4b0 : decide (x13_1 < (l0.length : Int)) = false := decide_eq_false c4
          clear c4
          obtain rfl := Option.some.inj H
          go_wp2
          repeat (go_quiet (fail); try go_wp2)
          go_ret
          exact ⟨by first | rfl | (simp; done) | (simp [*]; done), by repeat (first | exact Drawn0.refl _ | apply Drawn0.step)⟩
  · rw [if_neg c3] at H
    have c3b0 : ((l0.length : Int) == (l1.length : Int)) = false := beq_eq_false_iff_ne.mpr c3
    have c3b1 : ((l0.length : Int) != (l1.length : Int)) = true := bne_iff_ne.mpr c3
    have c3b2 : (l0.length == l1.length) = false := by first | simpa using c3 | (simp at c3 ⊢; omega)
    obtain rfl := Option.some.inj H
    go_enter Tryd.func26, Tryd.ntmps26
    go_wp2
    repeat (go_quiet (fail); try go_wp2)
    go_ret
    exact ⟨by first | rfl | (simp; done) | (simp [*]; done), by repeat (first | exact Drawn0.refl _ | apply Drawn0.step)⟩
end Go.Proofs.YtijldedhcjkhiaaDoor.U
