import Derived.Test.YtpeikjnkbjabpaaDoorSGP0
import Derived.Test.YtpeikjnkbjabpaaDoorSGP8
namespace Go.Proofs.YtpeikjnkbjabpaaDoor.P
open Go.RowKit Go.Proofs.YtpeikjnkbjabpaaDoorW.PrintWords Go.Proofs.YtpeikjnkbjabpaaDoorW.PrintLast Go.Proofs.YtpeikjnkbjabpaaDoorW.PrintMore
attribute [local go_sem] max2_int min2_int max_two min_two max_three min_three max_four min_four   -- for this text's walks alone
set_option linter.unusedVariables false
set_option linter.unusedSimpArgs false
mutual
def spec_Determinant.l0 : Nat → List (List Int) → Int → List Int → Int → Int → Option (Int)
  | 0, _, _, _, _, _ => none
  | k + 1, x0, x3, x14, x15, x16 => if x16 < x15 then (if 0 ≤ x16 then (if x16 < (x14.length : Int) then (if (rd x14 x16) = 0 then (spec_Determinant.l0 k x0 x3 x14 x15 (wrap64 (x16 + 1))) else (if 1 ≤ (x0.length : Int) then ((some (x0.drop 1 : List (List Int))).bind fun y207 => (spec_Determinant.l1 k x0 x3 x16 (rd x14 x16) (([] : List (List Int))) x14 x15 x16 y207 (y207.length : Int) 0)) else (none))) else (none)) else (none)) else (some x3)
def spec_Determinant.l1 : Nat → List (List Int) → Int → Int → Int → List (List Int) → List Int → Int → Int → List (List Int) → Int → Int → Option (Int)
  | 0, _, _, _, _, _, _, _, _, _, _, _ => none
  | k + 1, x0, x3, x4, x5, x6, x14, x15, x16, x25, x26, x27 => if x27 < x26 then (if 0 ≤ x27 then (if x27 < (x25.length : Int) then ((some (([] : List Int) : List Int)).bind fun y212 => (if 0 ≤ x4 then (if x4 ≤ ((rd_L1 x25 x27).length : Int) then (if y212.length + ((rd_L1 x25 x27).take (x4 : Int).toNat).length < 140737488355328 then ((some (y212 ++ ((rd_L1 x25 x27).take (x4 : Int).toNat) : List Int)).bind fun y216 => (if 0 ≤ (wrap64 (x4 + 1)) then (if (wrap64 (x4 + 1)) ≤ ((rd_L1 x25 x27).length : Int) then (if y216.length + ((rd_L1 x25 x27).drop ((wrap64 (x4 + 1)) : Int).toNat).length < 140737488355328 then (if x6.length < 5864062014805 then (spec_Determinant.l1 k x0 x3 x4 x5 (x6 ++ [(y216 ++ ((rd_L1 x25 x27).drop ((wrap64 (x4 + 1)) : Int).toNat))]) x14 x15 x16 x25 x26 (wrap64 (x27 + 1))) else (none)) else (none)) else (none)) else (none))) else (none)) else (none)) else (none))) else (none)) else (none)) else ((spec_Determinant.f k x6).bind fun t226 => ((spec_Mul.f k x5 t226).bind fun t227 => (spec_Determinant.l0 k x0 (Go.bits .xor .u8 x3 t227) x14 x15 (wrap64 (x16 + 1)))))
def spec_Determinant.f : Nat → List (List Int) → Option (Int)
  | 0, _ => none
  | k + 1, l0 => if (l0.length : Int) = 0 then (some 1) else (if 0 < (l0.length : Int) then (spec_Determinant.l0 k l0 0 (rd_L1 l0 0) ((rd_L1 l0 0).length : Int) 0) else (none))
end
theorem spec_Determinant.mono_l : ∀ k, (∀ y0, LeO (spec_Determinant.f k y0) (spec_Determinant.f (k + 1) y0)) ∧ (∀ y0 y1 y2 y3 y4, LeO (spec_Determinant.l0 k y0 y1 y2 y3 y4) (spec_Determinant.l0 (k + 1) y0 y1 y2 y3 y4)) ∧ (∀ y0 y1 y2 y3 y4 y5 y6 y7 y8 y9 y10, LeO (spec_Determinant.l1 k y0 y1 y2 y3 y4 y5 y6 y7 y8 y9 y10) (spec_Determinant.l1 (k + 1) y0 y1 y2 y3 y4 y5 y6 y7 y8 y9 y10))
  | 0 => ⟨fun _ r h => by simp [spec_Determinant.f] at h, fun _ _ _ _ _ r h => by simp [spec_Determinant.l0] at h, fun _ _ _ _ _ _ _ _ _ _ _ r h => by simp [spec_Determinant.l1] at h⟩
  | k + 1 => by
    obtain ⟨ih0, ih1, ih2⟩ := spec_Determinant.mono_l k
    refine ⟨?_, ?_, ?_⟩
    · intro y0
      unfold spec_Determinant.f
      repeat' first
      | (with_reducible exact ih0 _)
      | (with_reducible exact ih1 _ _ _ _ _)
      | (with_reducible exact ih2 _ _ _ _ _ _ _ _ _ _ _)
      | (with_reducible exact spec_Mul.mono _ _ _)
      | (with_reducible exact LeO.refl _)
      | (with_reducible exact LeO.none _)
      | (with_reducible refine LeO.ite ?_ ?_)
      | (with_reducible refine LeO.bind ?_ (fun _ => ?_))
      | exact ih0 _
      | exact ih1 _ _ _ _ _
      | exact ih2 _ _ _ _ _ _ _ _ _ _ _
      | exact spec_Mul.mono _ _ _
      | exact LeO.none _
      | refine LeO.ite ?_ ?_
      | refine LeO.bind ?_ (fun _ => ?_)
    · intro y0 y1 y2 y3 y4
      unfold spec_Determinant.l0
      repeat' first
      | (with_reducible exact ih0 _)
      | (with_reducible exact ih1 _ _ _ _ _)
      | (with_reducible exact ih2 _ _ _ _ _ _ _ _ _ _ _)
      | (with_reducible exact spec_Mul.mono _ _ _)
      | (with_reducible exact LeO.refl _)
      | (with_reducible exact LeO.none _)
      | (with_reducible refine LeO.ite ?_ ?_)
      | (with_reducible refine LeO.bind ?_ (fun _ => ?_))
      | exact ih0 _
      | exact ih1 _ _ _ _ _
      | exact ih2 _ _ _ _ _ _ _ _ _ _ _
      | exact spec_Mul.mono _ _ _
      | exact LeO.none _
      | refine LeO.ite ?_ ?_
      | refine LeO.bind ?_ (fun _ => ?_)
    · intro y0 y1 y2 y3 y4 y5 y6 y7 y8 y9 y10
      unfold spec_Determinant.l1
      repeat' first
      | (with_reducible exact ih0 _)
      | (with_reducible exact ih1 _ _ _ _ _)
      | (with_reducible exact ih2 _ _ _ _ _ _ _ _ _ _ _)
      | (with_reducible exact spec_Mul.mono _ _ _)
      | (with_reducible exact LeO.refl _)
      | (with_reducible exact LeO.none _)
      | (with_reducible refine LeO.ite ?_ ?_)
      | (with_reducible refine LeO.bind ?_ (fun _ => ?_))
      | exact ih0 _
      | exact ih1 _ _ _ _ _
      | exact ih2 _ _ _ _ _ _ _ _ _ _ _
      | exact spec_Mul.mono _ _ _
      | exact LeO.none _
      | refine LeO.ite ?_ ?_
      | refine LeO.bind ?_ (fun _ => ?_)
theorem spec_Determinant.mono : ∀ a0 k, LeO (spec_Determinant.f k a0) (spec_Determinant.f (k + 1) a0) := by
  intro a0 k
  obtain ⟨ih0, ih1, ih2⟩ := spec_Determinant.mono_l k
  exact ih0 a0
def spec_Determinant.T12 : Bool × List (List Nat × List Nat) := (true, [([], []), ([], []), ([], []), ([], []), ([2, 3], [2, 3]), ([1, 4], [1, 4]), ([], []), ([], []), ([7], [7]), ([6, 8], [6, 8]), ([5, 9, 5], [5, 9]), ([10], [10]), ([0, 11, 10], [0, 11]), ([12, 12, 0, 1, 2, 3, 4, 5, 6, 7, 8, 9, 10, 11, 12], [0, 12])])
def spec_Determinant.B12 : List Nat := [0, 0, 0, 0, 12, 30, 0, 0, 128, 448, 1022, 2046, 4095, 8191]
theorem spec_Determinant.tab12 : rtab .any (opsOf Tryd.f23 12) = spec_Determinant.T12 := by kernel_rfl
theorem spec_Determinant.bits12 : waitsOk spec_Determinant.T12.2 spec_Determinant.B12 = true := by kernel_rfl
set_option maxHeartbeats 8000000 in
set_option maxRecDepth 100000 in
theorem spec_Determinant.calls (k : Nat) : ∀ (A0 : Option Addr) (c0 : Nat) (l0 : List (List Int)) (r : Int) (w : World) (hr0 : Kd.C (Kd.slice 5 (Kd.int .u8)) w A0 l0.length l0) (hc0 : l0.length ≤ c0) (h : spec_Determinant.f k l0 = some r),
    Calls Tryd.prog 23 #[.slice A0 l0.length c0] w fun e w' => e = .returned (.int .u8 r) ∧ Below w.heap.size w w' := by
  induction k using Nat.strongRecOn with
  | _ k ih =>
  intro A0 c0 l0 r w hr0 hc0 h
  cases k with
  | zero => exact absurd h (by simp [spec_Determinant.f])
  | succ k =>
  simp only [spec_Determinant.f] at h
  have HR0 := Aside0.mk hr0
  have HC0 := Aside0.mk hc0
  clear hr0 hc0
  have HB := Aside0.mk (Below.refl w.heap.size w)
  have H : (if (l0.length : Int) = 0 then (some 1) else (if 0 < (l0.length : Int) then (spec_Determinant.l0 k l0 0 (rd_L1 l0 0) ((rd_L1 l0 0).length : Int) 0) else (none))) = some r := h
  clear h
  by_cases c2 : (l0.length : Int) = 0
  · rw [if_pos c2] at H
    have c2b0 : ((l0.length : Int) == 0) = true := beq_iff_eq.mpr c2
    have c2b1 : ((l0.length : Int) != 0) = false := bne_eq_false_iff_eq.mpr c2
    clear c2
    obtain rfl := Option.some.inj H
    go_enter Tryd.func23, Tryd.ntmps23
    go_wp2
    go_ret
    exact ⟨by first | rfl | (simp [errW_none, errW_some] <;> rfl) | (simp [*, errW_none, errW_some] <;> rfl), by repeat (first | (with_reducible first | exact HB.out | apply below_alloc | apply pw_below_drewN | apply below_drew1) | exact HB.out)⟩
  · rw [if_neg c2] at H
    have c2b0 : ((l0.length : Int) == 0) = false := beq_eq_false_iff_ne.mpr c2
    have c2b1 : ((l0.length : Int) != 0) = true := bne_iff_ne.mpr c2
    have c2b2 : ¬ (l0 = []) := fun h_ => c2 (by rw [h_]; rfl)
    by_cases c3 : 0 < (l0.length : Int)
    · rw [if_pos c3] at H
      have c3b0 : decide (0 < (l0.length : Int)) = true := decide_eq_true c3
      have c3b1 : decide (0 < l0.length) = true := decide_eq_true (by omega)
      clear c3
      have H' := Aside0.mk H
      clear H
      have p202 : 0 ≤ (0 : Int) := (by omega)
      have q202 : 0 < (l0.length : Int) := of_decide_eq_true (by first | (with_reducible assumption) | assumption)
      obtain ⟨ad202, A202_0, c202_0, e202, hx202_0, hl202_0, hi202_0⟩ := at_L1 HR0.out 0 p202 q202
      cases e202
      have qi202 : (0 < l0.length) = True := eq_true (by omega)
      (try rw [show ((0 : Int)).toNat = 0 from rfl] at hx202_0)
      (try rw [Addr.add_zero'] at hx202_0)
      have HR202_0 := Aside0.mk hi202_0
      have HC202_0 := Aside0.mk hl202_0
      clear hi202_0 hl202_0
      replace p202 := eq_true p202
      replace q202 := eq_true q202
      go_enter Tryd.func23, Tryd.ntmps23
      go_wp2
      try simp only [Act.put, List.setIfInBounds_toArray, List.set_cons_zero, List.set_cons_succ]
      go_loopg [3, 16] k (fun kq v3 v16 w' => ∃ (x3_1 : Int) (x16_1 : Int), v3 = .int .u8 x3_1 ∧ v16 = .int .i64 x16_1 ∧ Aside0 (spec_Determinant.l0 kq l0 x3_1 (rd_L1 l0 0) ((rd_L1 l0 0).length : Int) x16_1 = some r) ∧ Aside0 (kq ≤ k) ∧ Aside0 (Below w.heap.size w w'))
      case atStart => exact ⟨(0), (0), (by first | rfl | (simp; done) | (simp [*]; done)), (by first | rfl | (simp; done) | (simp [*]; done)), H', ⟨Nat.le_refl _⟩, ⟨by repeat (first | (with_reducible first | exact HB.out | apply below_alloc | apply pw_below_drewN | apply below_drew1) | exact HB.out)⟩⟩
      case round =>
        clear H'
        try clear c2
        try clear c2b0
        try clear c2b1
        try clear c2b2
        try clear p2
        try clear q2
        try clear hx2
        try clear qi2
        try clear c3
        try clear c3b0
        try clear c3b1
        try clear hx202_0
        try clear p202
        try clear q202
        obtain ⟨x3_1, x16_1, rfl, rfl, HA, HK1, HB⟩ := hrel
        cases gk with
        | zero => exact absurd HA.out (by simp [spec_Determinant.l0])
        | succ k1 =>
          have H := HA.out
          clear HA
          simp only [spec_Determinant.l0] at H
          by_cases c4 : x16_1 < ((rd_L1 l0 0).length : Int)
          · rw [if_pos c4] at H
            have c4b0 : decide (x16_1 < ((rd_L1 l0 0).length : Int)) = true := decide_eq_true c4
            clear c4
            by_cases c5 : 0 ≤ x16_1
            · rw [if_pos c5] at H
              have c5b0 : decide (0 ≤ x16_1) = true := decide_eq_true c5
              clear c5
              by_cases c6 : x16_1 < ((rd_L1 l0 0).length : Int)
              · rw [if_pos c6] at H
                have c6b0 : decide (x16_1 < ((rd_L1 l0 0).length : Int)) = true := decide_eq_true c6
                clear c6
                by_cases c7 : (rd (rd_L1 l0 0) x16_1) = 0
                · rw [if_pos c7] at H
                  have c7b0 : ((rd (rd_L1 l0 0) x16_1) == 0) = true := beq_iff_eq.mpr c7
                  have c7b1 : ((rd (rd_L1 l0 0) x16_1) != 0) = false := bne_eq_false_iff_eq.mpr c7
                  clear c7
                  have H' := Aside0.mk H
                  clear H
                  have p203 : 0 ≤ (x16_1 : Int) := of_decide_eq_true (by first | (with_reducible assumption) | assumption)
                  have q203 : x16_1 < ((rd_L1 l0 0).length : Int) := of_decide_eq_true (by first | (with_reducible assumption) | assumption)
                  obtain ⟨ad203, e203, hx203_0⟩ := Kd.at_int HR202_0.out x16_1 p203 q203
                  cases e203
                  (try replace hx203_0 := (HB.out.cell (World.block_lt_of_cell? w _ hx203_0)).trans hx203_0)
                  replace p203 := eq_true p203
                  replace q203 := eq_true q203
                  go_wp2
                  go_roundg k1
                  case measure => have := HK1.out; omega
                  case rel => exact ⟨(x3_1), (wrap64 (x16_1 + 1)), (by first | rfl | (simp; done) | (simp [*]; done)), (by first | rfl | (simp; done) | (simp [*]; done)), H', ⟨by have := HK1.out; omega⟩, ⟨by repeat (first | (with_reducible first | exact HB.out | apply below_alloc | apply pw_below_drewN | apply below_drew1) | exact HB.out)⟩⟩
                · rw [if_neg c7] at H
                  have c7b0 : ((rd (rd_L1 l0 0) x16_1) == 0) = false := beq_eq_false_iff_ne.mpr c7
                  have c7b1 : ((rd (rd_L1 l0 0) x16_1) != 0) = true := bne_iff_ne.mpr c7
                  obtain ⟨y204, hy204⟩ : ∃ y_ : List (List Int), y_ = (([] : List (List Int))) := ⟨_, rfl⟩
                  replace H : (if 1 ≤ (l0.length : Int) then ((some (l0.drop 1 : List (List Int))).bind fun y207 => (spec_Determinant.l1 k1 l0 x3_1 x16_1 (rd (rd_L1 l0 0) x16_1) y204 (rd_L1 l0 0) ((rd_L1 l0 0).length : Int) x16_1 y207 (y207.length : Int) 0)) else (none)) = some r := by first | (rw [hy204]; with_reducible exact H) | (have H2_ := (Option.bind_some _ _).symm.trans H; rw [hy204]; with_reducible exact H2_) | (have H2_ := (Option.bind_some _ _).symm.trans H; with_reducible exact H2_) | with_reducible exact H | (rw [hy204]; exact H) | exact H
                  have Ny204 := Aside0.mk hy204
                  clear hy204
                  by_cases c8 : 1 ≤ (l0.length : Int)
                  · rw [if_pos c8] at H
                    have c8b0 := eq_true c8
                    have c8b1 : decide (1 ≤ (l0.length : Int)) = true := decide_eq_true c8
                    clear c8
                    obtain ⟨y207, hy207⟩ : ∃ y_ : List (List Int), y_ = (l0.drop 1) := ⟨_, rfl⟩
                    replace H : (spec_Determinant.l1 k1 l0 x3_1 x16_1 (rd (rd_L1 l0 0) x16_1) y204 (rd_L1 l0 0) ((rd_L1 l0 0).length : Int) x16_1 y207 (y207.length : Int) 0) = some r := by first | (rw [hy207]; with_reducible exact H) | (have H2_ := (Option.bind_some _ _).symm.trans H; rw [hy207]; with_reducible exact H2_) | (have H2_ := (Option.bind_some _ _).symm.trans H; with_reducible exact H2_) | with_reducible exact H | (rw [hy207]; exact H) | exact H
                    have Ny207 := Aside0.mk hy207
                    clear hy207
                    have H' := Aside0.mk H
                    clear H
                    have p203 : 0 ≤ (x16_1 : Int) := of_decide_eq_true (by first | (with_reducible assumption) | assumption)
                    have q203 : x16_1 < ((rd_L1 l0 0).length : Int) := of_decide_eq_true (by first | (with_reducible assumption) | assumption)
                    obtain ⟨ad203, e203, hx203_0⟩ := Kd.at_int HR202_0.out x16_1 p203 q203
                    cases e203
                    (try replace hx203_0 := (HB.out.cell (World.block_lt_of_cell? w _ hx203_0)).trans hx203_0)
                    replace p203 := eq_true p203
                    replace q203 := eq_true q203
                    go_wp2_with (first | ((with_reducible refine gate_dst (N := 23) rfl ?_); refine Kd.S_lit (Kd.slice 5 (Kd.int .u8)) _ 22 ?hg (N := 23) ?hd (xs := ([] : List (List Int))) (inner := []) (ok := fun _ => True) (okp := fun _ => True) ?hr ?hp (fun _ hk => hk) trivial (Below.refl _ _) (Nat.le_refl _) (by simp) ?_; (case hd => rfl); (case hg => rfl); (case hr => first | (go_simp; done) | (go_simp; rfl)); (case hp => exact (Reps.none _ _)); intro v205 w9 ho10 hb hg_ hnew_; clear hg_ hnew_; (first | rw [← Ny204.out] at ho10 | (simp only [Int.reduceToNat] at ho10; rw [← Ny204.out] at ho10)); have n0_ := Aside0.mk (Kd.S_lower ho10 (below_size (by repeat (first | (with_reducible first | exact HB.out | apply below_alloc | apply pw_below_drewN | apply below_drew1) | exact HB.out)))); have n1_ := Aside0.mk (below_step (by repeat (first | (with_reducible first | exact HB.out | apply below_alloc | apply pw_below_drewN | apply below_drew1) | exact HB.out)) hb); clear HB; have HO206 := n0_; have HB := n1_; clear n0_ n1_; clear hb ho10; have q11 : (1 : Int) ≤ ((l0.length : Int) : Int) := of_decide_eq_true (by first | (with_reducible assumption) | assumption); obtain ⟨i011, hi011, _, hsz11, _⟩ := info_parts info22; have hroom11 : l0.length ≤ c0 := HC0.out; have hC11 : Kd.C (Kd.slice 5 (Kd.int .u8)) _ (some ad202) l0.length l0 := HR0.out; have hcut11 := cut_from (P := Tryd.prog) 30 22 .i64 Tryd.underlying30 hi011 1 hsz11 (some ad202) l0.length c0 1 (by omega) q11; have hr11 := Kd.C_drop (m := (1 : Int).toNat) (c := c0) hC11 (by omega) hroom11; obtain ⟨A11, hA11⟩ : ∃ A1q_, A1q_ = (if c0 = (1 : Int).toNat then (some ad202) else ((some ad202) : Option Addr).map (·.add ((1 : Int).toNat * 1))) := ⟨_, rfl⟩; obtain ⟨c11, hc11⟩ : ∃ c1q_, c1q_ = c0 - (1 : Int).toNat := ⟨_, rfl⟩; have hy11 : y207.length = l0.length - (1 : Int).toNat := (by rw [Ny207.out, List.length_drop] <;> omega); rw [show (l0).drop (1 : Int).toNat = y207 from Ny207.out.symm] at hr11; replace hr11 : Kd.C (Kd.slice 5 (Kd.int .u8)) _ A11 y207.length y207 := (by rw [hA11]; exact hr11); rw [← hy11, ← hA11, ← hc11] at hcut11; have HR210 := Aside0.mk hr11; have HC210 := Aside0.mk (show y207.length ≤ c11 from by rw [hy11, hc11]; exact Nat.sub_le_sub_right hroom11 _); clear hr11 hC11 hroom11 hi011 hsz11 hc11; have KY11 := Aside0.mk hy11; have KA11 := Aside0.mk hA11; clear hy11 hA11; replace q11 := eq_true q11))
                    try simp only [Act.put, List.setIfInBounds_toArray, List.set_cons_zero, List.set_cons_succ]
                    go_loopg [6, 27] k1 (fun kq v6 v27 w' => ∃ (x6_2 : List (List Int)) (x27_2 : Int), v27 = .int .i64 x27_2 ∧ Aside0 (spec_Determinant.l1 kq l0 x3_1 x16_1 (rd (rd_L1 l0 0) x16_1) x6_2 (rd_L1 l0 0) ((rd_L1 l0 0).length : Int) x16_1 y207 (y207.length : Int) x27_2 = some r) ∧ Aside0 (kq ≤ k1) ∧ Aside0 (Kd.S (Kd.slice 5 (Kd.int .u8)) 22 w' w.heap.size (fun _ => True) v6 x6_2) ∧ Aside0 (Below w.heap.size w w'))
                    case atStart => exact ⟨(y204), (0), (by first | rfl | (simp; done) | (simp [*]; done)), H', ⟨Nat.le_refl _⟩, ⟨by (with_reducible repeat (first | apply Kd.S_alloc | apply Kd.S_drewN | apply Kd.S_drew)); exact HO206.out⟩, ⟨by repeat (first | (with_reducible first | exact HB.out | apply below_alloc | apply pw_below_drewN | apply below_drew1) | exact HB.out)⟩⟩
                    case round =>
                      clear H'
                      try clear c1
                      try clear q1
                      try clear c2
                      try clear c2b0
                      try clear c2b1
                      try clear c2b2
                      try clear p2
                      try clear q2
                      try clear hx2
                      try clear qi2
                      try clear c3
                      try clear c3b0
                      try clear c3b1
                      try clear c4
                      try clear c4b0
                      try clear c5
                      try clear c5b0
                      try clear c6
                      try clear c6b0
                      try clear p6
                      try clear c7
                      try clear c7b0
                      try clear c7b1
                      try clear c8
                      try clear c8b0
                      try clear c8b1
                      try clear c11
                      try clear q11
                      try clear hx202_0
                      try clear hx203_0
                      try clear p2
                      try clear p202
                      try clear p203
                      try clear q11
                      try clear q2
                      try clear q202
                      try clear q203
                      obtain ⟨x6_2, x27_2, rfl, HA, HK2, HO_6, HB⟩ := hrel
                      cases gk with
                      | zero => exact absurd HA.out (by simp [spec_Determinant.l1])
                      | succ k2 =>
                        have H := HA.out
                        clear HA
                        simp only [spec_Determinant.l1] at H
                        by_cases c12 : x27_2 < (y207.length : Int)
                        · rw [if_pos c12] at H
                          have c12b0 : decide (x27_2 < (y207.length : Int)) = true := decide_eq_true c12
                          clear c12
                          by_cases c13 : 0 ≤ x27_2
                          · rw [if_pos c13] at H
                            have c13b0 : decide (0 ≤ x27_2) = true := decide_eq_true c13
                            clear c13
                            by_cases c14 : x27_2 < (y207.length : Int)
                            · rw [if_pos c14] at H
                              have c14b0 : decide (x27_2 < (y207.length : Int)) = true := decide_eq_true c14
                              clear c14
                              obtain ⟨y212, hy212⟩ : ∃ y_ : List Int, y_ = (([] : List Int)) := ⟨_, rfl⟩
                              replace H : (if 0 ≤ x16_1 then (if x16_1 ≤ ((rd_L1 y207 x27_2).length : Int) then (if y212.length + ((rd_L1 y207 x27_2).take (x16_1 : Int).toNat).length < 140737488355328 then ((some (y212 ++ ((rd_L1 y207 x27_2).take (x16_1 : Int).toNat) : List Int)).bind fun y216 => (if 0 ≤ (wrap64 (x16_1 + 1)) then (if (wrap64 (x16_1 + 1)) ≤ ((rd_L1 y207 x27_2).length : Int) then (if y216.length + ((rd_L1 y207 x27_2).drop ((wrap64 (x16_1 + 1)) : Int).toNat).length < 140737488355328 then (if x6_2.length < 5864062014805 then (spec_Determinant.l1 k2 l0 x3_1 x16_1 (rd (rd_L1 l0 0) x16_1) (x6_2 ++ [(y216 ++ ((rd_L1 y207 x27_2).drop ((wrap64 (x16_1 + 1)) : Int).toNat))]) (rd_L1 l0 0) ((rd_L1 l0 0).length : Int) x16_1 y207 (y207.length : Int) (wrap64 (x27_2 + 1))) else (none)) else (none)) else (none)) else (none))) else (none)) else (none)) else (none)) = some r := by first | (rw [hy212]; with_reducible exact H) | (have H2_ := (Option.bind_some _ _).symm.trans H; rw [hy212]; with_reducible exact H2_) | (have H2_ := (Option.bind_some _ _).symm.trans H; with_reducible exact H2_) | with_reducible exact H | (rw [hy212]; exact H) | exact H
                              have Ny212 := Aside0.mk hy212
                              clear hy212
                              by_cases c15 : 0 ≤ x16_1
                              · rw [if_pos c15] at H
                                have c15b0 := eq_true c15
                                have c15b1 : decide (0 ≤ x16_1) = true := decide_eq_true c15
                                clear c15
                                by_cases c16 : x16_1 ≤ ((rd_L1 y207 x27_2).length : Int)
                                · rw [if_pos c16] at H
                                  have c16b0 := eq_true c16
                                  have c16b1 : decide (x16_1 ≤ ((rd_L1 y207 x27_2).length : Int)) = true := decide_eq_true c16
                                  clear c16
                                  by_cases c17 : y212.length + ((rd_L1 y207 x27_2).take (x16_1 : Int).toNat).length < 140737488355328
                                  · rw [if_pos c17] at H
                                    have LMc17 := Aside0.mk c17
                                    clear c17
                                    obtain ⟨y216, hy216⟩ : ∃ y_ : List Int, y_ = (y212 ++ ((rd_L1 y207 x27_2).take (x16_1 : Int).toNat)) := ⟨_, rfl⟩
                                    replace H : (if 0 ≤ (wrap64 (x16_1 + 1)) then (if (wrap64 (x16_1 + 1)) ≤ ((rd_L1 y207 x27_2).length : Int) then (if y216.length + ((rd_L1 y207 x27_2).drop ((wrap64 (x16_1 + 1)) : Int).toNat).length < 140737488355328 then (if x6_2.length < 5864062014805 then (spec_Determinant.l1 k2 l0 x3_1 x16_1 (rd (rd_L1 l0 0) x16_1) (x6_2 ++ [(y216 ++ ((rd_L1 y207 x27_2).drop ((wrap64 (x16_1 + 1)) : Int).toNat))]) (rd_L1 l0 0) ((rd_L1 l0 0).length : Int) x16_1 y207 (y207.length : Int) (wrap64 (x27_2 + 1))) else (none)) else (none)) else (none)) else (none)) = some r := by first | (rw [hy216]; with_reducible exact H) | (have H2_ := (Option.bind_some _ _).symm.trans H; rw [hy216]; with_reducible exact H2_) | (have H2_ := (Option.bind_some _ _).symm.trans H; with_reducible exact H2_) | with_reducible exact H | (rw [hy216]; exact H) | exact H
                                    have Ny216 := Aside0.mk hy216
                                    clear hy216
                                    obtain ⟨ji18, hji18⟩ : ∃ j_ : Int, (wrap64 (x16_1 + 1)) = j_ := ⟨_, rfl⟩
                                    replace H : (if 0 ≤ (ji18) then (if (ji18) ≤ ((rd_L1 y207 x27_2).length : Int) then (if y216.length + ((rd_L1 y207 x27_2).drop ((ji18) : Int).toNat).length < 140737488355328 then (if x6_2.length < 5864062014805 then (spec_Determinant.l1 k2 l0 x3_1 x16_1 (rd (rd_L1 l0 0) x16_1) (x6_2 ++ [(y216 ++ ((rd_L1 y207 x27_2).drop ((ji18) : Int).toNat))]) (rd_L1 l0 0) ((rd_L1 l0 0).length : Int) x16_1 y207 (y207.length : Int) (wrap64 (x27_2 + 1))) else (none)) else (none)) else (none)) else (none)) = some r := by first | (rw [hji18] at H; exact H) | (simp only [hji18] at H ⊢; exact H)
                                    have hji18w : (IntKind.i64.wrap (x16_1 + 1)) = ji18 := (i64_w _).trans hji18
                                    by_cases c19 : 0 ≤ (ji18)
                                    · rw [if_pos c19] at H
                                      have c19b0 := eq_true c19
                                      have c19b1 : decide (0 ≤ (ji18)) = true := decide_eq_true c19
                                      clear c19
                                      by_cases c20 : (ji18) ≤ ((rd_L1 y207 x27_2).length : Int)
                                      · rw [if_pos c20] at H
                                        have c20b0 := eq_true c20
                                        have c20b1 : decide ((ji18) ≤ ((rd_L1 y207 x27_2).length : Int)) = true := decide_eq_true c20
                                        clear c20
                                        by_cases c21 : y216.length + ((rd_L1 y207 x27_2).drop ((ji18) : Int).toNat).length < 140737488355328
                                        · rw [if_pos c21] at H
                                          have LMc21 := Aside0.mk c21
                                          clear c21
                                          obtain ⟨y220, hy220⟩ : ∃ y_ : List Int, y_ = (y216 ++ ((rd_L1 y207 x27_2).drop ((ji18) : Int).toNat)) := ⟨_, rfl⟩
                                          replace H : (if x6_2.length < 5864062014805 then (spec_Determinant.l1 k2 l0 x3_1 x16_1 (rd (rd_L1 l0 0) x16_1) (x6_2 ++ [y220]) (rd_L1 l0 0) ((rd_L1 l0 0).length : Int) x16_1 y207 (y207.length : Int) (wrap64 (x27_2 + 1))) else (none)) = some r := by first | (rw [hy220]; with_reducible exact H) | (have H2_ := (Option.bind_some _ _).symm.trans H; rw [hy220]; with_reducible exact H2_) | (have H2_ := (Option.bind_some _ _).symm.trans H; with_reducible exact H2_) | with_reducible exact H | (rw [hy220]; exact H) | exact H
                                          have Ny220 := Aside0.mk hy220
                                          clear hy220
                                          by_cases c22 : x6_2.length < 5864062014805
                                          · rw [if_pos c22] at H
                                            have LMc22 := Aside0.mk c22
                                            clear c22
                                            obtain ⟨y223, hy223⟩ : ∃ y_ : List (List Int), y_ = (x6_2 ++ [y220]) := ⟨_, rfl⟩
                                            replace H : (spec_Determinant.l1 k2 l0 x3_1 x16_1 (rd (rd_L1 l0 0) x16_1) y223 (rd_L1 l0 0) ((rd_L1 l0 0).length : Int) x16_1 y207 (y207.length : Int) (wrap64 (x27_2 + 1))) = some r := by first | (rw [hy223]; with_reducible exact H) | (have H2_ := (Option.bind_some _ _).symm.trans H; rw [hy223]; with_reducible exact H2_) | (have H2_ := (Option.bind_some _ _).symm.trans H; with_reducible exact H2_) | with_reducible exact H | (rw [hy223]; exact H) | exact H
                                            have Ny223 := Aside0.mk hy223
                                            clear hy223
                                            have H' := Aside0.mk H
                                            clear H
                                            have p211 : 0 ≤ (x27_2 : Int) := of_decide_eq_true (by first | (with_reducible assumption) | assumption)
                                            have q211 : x27_2 < (y207.length : Int) := of_decide_eq_true (by first | (with_reducible assumption) | assumption)
                                            obtain ⟨ad211, A211_0, c211_0, e211, hx211_0, hl211_0, hi211_0⟩ := at_L1 HR210.out x27_2 p211 q211
                                            cases e211
                                            (try replace hx211_0 := (HB.out.cell (World.block_lt_of_cell? w _ hx211_0)).trans hx211_0)
                                            have HR211_0 := Aside0.mk hi211_0
                                            have HC211_0 := Aside0.mk hl211_0
                                            clear hi211_0 hl211_0
                                            replace p211 := eq_true p211
                                            replace q211 := eq_true q211
                                            try go_wp2
                                            have n0_ := Aside0.mk (Kd.S_drew HO_6.out)
                                            have n1_ := Aside0.mk (below_drew1 HB.out)
                                            clear HO_6
                                            clear HB
                                            have HO_6 := n0_
                                            have HB := n1_
                                            clear n0_ n1_
                                            obtain ⟨i024, hi024, _, hsz24, _⟩ := info_parts info5
                                            obtain ⟨hcut24, hA24, hC24⟩ := print_take_of (P := Tryd.prog) (Value.int .u8) 0 22 5 .i64 Tryd.underlying22 hi024 hsz24 A211_0 c211_0 (rd_L1 y207 x27_2) x16_1 (of_decide_eq_true (by first | (with_reducible assumption) | assumption)) (of_decide_eq_true (by first | (with_reducible assumption) | assumption)) HC211_0.out
                                            have HR215 := Aside0.mk (Kd.C_of_reads (h1 := fun _ => rfl) (hA24 _ (Kd.reads_of_C HR211_0.out)))
                                            have HC215 := Aside0.mk hC24
                                            clear hA24 hC24 hi024 hsz24
                                            obtain ⟨i025, hi025, _, hsz25, _⟩ := info_parts info5
                                            obtain ⟨A25, hcut25, hA25, hC25⟩ := print_drop_of (P := Tryd.prog) (Value.int .u8) 0 22 5 .i64 Tryd.underlying22 hi025 hsz25 A211_0 c211_0 (rd_L1 y207 x27_2) (ji18) (of_decide_eq_true (by first | (with_reducible assumption) | assumption)) (of_decide_eq_true (by first | (with_reducible assumption) | assumption)) HC211_0.out
                                            have HR219 := Aside0.mk (Kd.C_of_reads (h1 := fun _ => rfl) (hA25 _ (Kd.reads_of_C HR211_0.out)))
                                            have HC219 := Aside0.mk hC25
                                            clear hA25 hC25 hi025 hsz25
                                            refine start_ (n := 14) (S := fun w' => True) (ds := []) #[false, false, false, false, false, false, false, false, false, false, false, false, false, false] (by kernel_rfl) rfl rfl trivial (fun hHeld => ?_); refine with_tabW spec_Determinant.tab12 spec_Determinant.bits12 (fun HT_ HW_ => ?_)
                                            generalize wr.drew = w23 at HO_6 HB HR215 HR219 hHeld ⊢
                                            refine pure_ (i := 0) (N := some 31) (v := ?_) (a' := ?_) #[true, false, false, false, false, false, false, false, false, false, false, false, false, false] rfl rfl (any_of HT_.out (by kernel_rfl)) (fun _ _ _ h => h) (Or.inl ⟨by rfl, ?_⟩) ?_ ?_
                                            rotate_left
                                            · intro w'
                                              go_simp
                                              with_reducible rfl
                                            rotate_left
                                            · simp only [Act.put, List.setIfInBounds_toArray, List.set_cons_zero, List.set_cons_succ, i64_w, i32_w]
                                              rfl
                                            refine pure_ (i := 2) (N := some 33) (v := ?_) (a' := ?_) #[true, false, true, false, false, false, false, false, false, false, false, false, false, false] rfl rfl (any_of HT_.out (by kernel_rfl)) (fun _ _ _ h => h) (Or.inl ⟨by rfl, ?_⟩) ?_ ?_
                                            rotate_left
                                            · intro w'
                                              go_simp
                                              with_reducible rfl
                                            rotate_left
                                            · simp only [Act.put, List.setIfInBounds_toArray, List.set_cons_zero, List.set_cons_succ, i64_w, i32_w]
                                              rfl
                                            refine pure_ (i := 3) (N := some 34) (v := ?_) (a' := ?_) #[true, false, true, true, false, false, false, false, false, false, false, false, false, false] rfl rfl (any_of HT_.out (by kernel_rfl)) (fun _ _ _ h => h) (Or.inl ⟨by rfl, ?_⟩) ?_ ?_
                                            rotate_left
                                            · intro w'
                                              go_simp
                                              with_reducible rfl
                                            rotate_left
                                            · simp only [Act.put, List.setIfInBounds_toArray, List.set_cons_zero, List.set_cons_succ, i64_w, i32_w]
                                              rfl
                                            refine pure_ (i := 4) (N := some 35) (v := ?_) (a' := ?_) #[true, false, true, true, true, false, false, false, false, false, false, false, false, false] rfl rfl (any_of HT_.out (by kernel_rfl)) (fun _ _ _ h => h) (Or.inl ⟨by rfl, ?_⟩) ?_ ?_
                                            rotate_left
                                            · intro w'
                                              go_simp
                                              with_reducible rfl
                                            rotate_left
                                            · simp only [Act.put, List.setIfInBounds_toArray, List.set_cons_zero, List.set_cons_succ, i64_w, i32_w]
                                              rfl
                                            refine pure_ (i := 6) (N := some 37) (v := ?_) (a' := ?_) #[true, false, true, true, true, false, true, false, false, false, false, false, false, false] rfl rfl (any_of HT_.out (by kernel_rfl)) (fun _ _ _ h => h) (Or.inl ⟨by rfl, ?_⟩) ?_ ?_
                                            rotate_left
                                            · intro w'
                                              go_simp
                                              with_reducible rfl
                                            rotate_left
                                            · simp only [Act.put, List.setIfInBounds_toArray, List.set_cons_zero, List.set_cons_succ, i64_w, i32_w]
                                              rfl
                                            refine pure_ (i := 7) (N := some 38) (v := ?_) (a' := ?_) #[true, false, true, true, true, false, true, true, false, false, false, false, false, false] rfl rfl (any_of HT_.out (by kernel_rfl)) (fun _ _ _ h => h) (Or.inl ⟨by rfl, ?_⟩) ?_ ?_
                                            rotate_left
                                            · intro w'
                                              go_simp
                                              with_reducible rfl
                                            rotate_left
                                            · simp only [Act.put, List.setIfInBounds_toArray, List.set_cons_zero, List.set_cons_succ, i64_w, i32_w]
                                              rfl
                                            refine pure_ (i := 8) (N := some 39) (v := ?_) (a' := ?_) #[true, false, true, true, true, false, true, true, true, false, false, false, false, false] rfl rfl (any_of HT_.out (by kernel_rfl)) (fun _ _ _ h => h) (Or.inl ⟨by rfl, ?_⟩) ?_ ?_
                                            rotate_left
                                            · intro w'
                                              go_simp
                                              with_reducible rfl
                                            rotate_left
                                            · simp only [Act.put, List.setIfInBounds_toArray, List.set_cons_zero, List.set_cons_succ, i64_w, i32_w]
                                              rfl
                                            refine pure_ (i := 9) (N := some 40) (v := ?_) (a' := ?_) #[true, false, true, true, true, false, true, true, true, true, false, false, false, false] rfl rfl (any_of HT_.out (by kernel_rfl)) (fun _ _ _ h => h) (Or.inl ⟨by rfl, ?_⟩) ?_ ?_
                                            rotate_left
                                            · intro w'
                                              go_simp
                                              with_reducible rfl
                                            rotate_left
                                            · simp only [Act.put, List.setIfInBounds_toArray, List.set_cons_zero, List.set_cons_succ, i64_w, i32_w]
                                              rfl
                                            refine one_ (i := 1) (N := some 32) #[true, true, true, true, true, false, true, true, true, true, false, false, false, false] rfl rfl (one_of HT_.out (by kernel_rfl)) (by decide) (fun K hK => ?_)
                                            refine Kd.R_lit_step (Kd.int .u8) _ 5 ?hg (N := 32) ?hd (xs := ([] : List Int)) (inner := []) (ok := fun _ => True) (okp := fun _ => True) ?hr ?hp (fun _ hk => hk) trivial (Below.refl _ _) (Nat.le_refl _) (by simp) ?_; (case hd => rfl); (case hg => rfl); (case hr => first | (go_simp; done) | (go_simp; rfl)); (case hp => exact (Reps.none _ _))
                                            intro v213 w26 ho27 hb hg_ hnew_
                                            clear hg_ hnew_
                                            (first | rw [← Ny212.out] at ho27 | (simp only [Int.reduceToNat] at ho27; rw [← Ny212.out] at ho27))
                                            have n0_ := Aside0.mk (Kd.S_elder' (by (with_reducible repeat (first | apply Kd.S_alloc | apply Kd.S_drewN | apply Kd.S_drew)); exact HO_6.out) (Kd.R_base ho27) hb)
                                            have n1_ := Aside0.mk (Kd.R_lower ho27 (below_size (by repeat (first | (with_reducible first | exact HB.out | apply below_alloc | apply pw_below_drewN | apply below_drew1) | exact HB.out))))
                                            have n2_ := Aside0.mk (below_step (by repeat (first | (with_reducible first | exact HB.out | apply below_alloc | apply pw_below_drewN | apply below_drew1) | exact HB.out)) hb)
                                            clear HO_6
                                            clear HB
                                            have HO_6 := n0_
                                            have HO214 := n1_
                                            have HB := n2_
                                            clear n0_ n1_ n2_
                                            clear hb ho27
                                            refine hK.out _ _ trivial (fun hHeld => ?_)
                                            clear hK K
                                            refine norm_ (a' := ?_) ?_ ?_
                                            rotate_left
                                            · show Act.put _ (some 32) _ = _
                                              simp only [Act.put, List.setIfInBounds_toArray, List.set_cons_zero, List.set_cons_succ, i64_w, i32_w]
                                              rfl
                                            refine one_ (i := 5) (N := some 36) #[true, true, true, true, true, true, true, true, true, true, false, false, false, false] rfl rfl (one_of HT_.out (by kernel_rfl)) (by decide) (fun K hK => ?_)
                                            refine Kd.R_append_rows_step (Kd.int .u8) (w0 := w) w.heap.size (by rfl) (.tmp 32) (.tmp 35) 22 5 (.int .u8 0) 1 rfl Tryd.underlying22 info5 rfl (by decide) (by omega) v213 y212 ((rd_L1 y207 x27_2).take (x16_1 : Int).toNat) _ _ _ (fun _ => True) (fun _ => False) rfl rfl ?aO ?aR (fun _ _ h => h) (fun _ h => h.elim) ?aF ?aB ?aS ?aL ?_
                                            (case aR => first | (rw [← show ((rd_L1 y207 x27_2).take (x16_1 : Int).toNat).length = x16_1.toNat from (by rw [List.length_take]; have h_ : (x16_1 : Int) ≤ ((rd_L1 y207 x27_2).length : Int) := of_decide_eq_true (by first | (with_reducible assumption) | assumption); omega)]; (repeat (first | exact (Kd.C_below HR215.out HB.out) | (with_reducible refine Kd.C_alloc ?_ _) | (with_reducible refine Kd.C_drewN ?_ _) | (with_reducible refine Kd.C_drew ?_))); done) | (refine Eq.mp (congrArg (fun m_ => Kd.C _ _ _ m_ _) (show ((rd_L1 y207 x27_2).take (x16_1 : Int).toNat).length = x16_1.toNat from (by rw [List.length_take]; have h_ : (x16_1 : Int) ≤ ((rd_L1 y207 x27_2).length : Int) := of_decide_eq_true (by first | (with_reducible assumption) | assumption); omega))) ?_; (repeat (first | exact (Kd.C_below HR215.out HB.out) | (with_reducible refine Kd.C_alloc ?_ _) | (with_reducible refine Kd.C_drewN ?_ _) | (with_reducible refine Kd.C_drew ?_))); done) | (repeat (first | exact (Kd.C_below HR215.out HB.out) | (with_reducible refine Kd.C_alloc ?_ _) | (with_reducible refine Kd.C_drewN ?_ _) | (with_reducible refine Kd.C_drew ?_))))
                                            (case aB => exact (by repeat (first | (with_reducible first | exact HB.out | apply below_alloc | apply pw_below_drewN | apply below_drew1) | exact HB.out)))
                                            (case aF => exact (fun _ _ => trivial))
                                            (case aO => exact (by (with_reducible repeat (first | apply Kd.R_alloc | apply Kd.R_drewN | apply Kd.R_drew)); exact HO214.out))
                                            (case aS => exact (below_size (by repeat (first | (with_reducible first | exact HB.out | apply below_alloc | apply pw_below_drewN | apply below_drew1) | exact HB.out))))
                                            (case aL => have := LMc17.out; have hlx_ := (show ((rd_L1 y207 x27_2).take (x16_1 : Int).toNat).length = x16_1.toNat from (by rw [List.length_take]; have h_ : (x16_1 : Int) ≤ ((rd_L1 y207 x27_2).length : Int) := of_decide_eq_true (by first | (with_reducible assumption) | assumption); omega)); omega)
                                            intro v217 w28 ho hb hg hat
                                            rw [← Ny216.out] at ho
                                            have n0_ := Aside0.mk (Kd.S_after (ok := (fun _ => True)) (by (with_reducible repeat (first | apply Kd.S_alloc | apply Kd.S_drewN | apply Kd.S_drew)); exact HO_6.out) hg hat)
                                            have n1_ := Aside0.mk (hb)
                                            have n2_ := Aside0.mk (ho)
                                            clear HO_6
                                            clear HB
                                            clear HO214
                                            have HO_6 := n0_
                                            have HB := n1_
                                            have HO218 := n2_
                                            clear n0_ n1_ n2_
                                            clear ho hb hg hat
                                            refine hK.out _ _ trivial (fun hHeld => ?_)
                                            clear hK K
                                            refine norm_ (a' := ?_) ?_ ?_
                                            rotate_left
                                            · show Act.put _ (some 36) _ = _
                                              simp only [Act.put, List.setIfInBounds_toArray, List.set_cons_zero, List.set_cons_succ, i64_w, i32_w]
                                              rfl
                                            refine one_ (i := 10) (N := some 41) #[true, true, true, true, true, true, true, true, true, true, true, false, false, false] rfl rfl (one_of HT_.out (by kernel_rfl)) (by decide) (fun K hK => ?_)
                                            refine Kd.R_append_rows_step (Kd.int .u8) (w0 := w) w.heap.size (by rfl) (.tmp 36) (.tmp 40) 22 5 (.int .u8 0) 1 rfl Tryd.underlying22 info5 rfl (by decide) (by omega) v217 y216 ((rd_L1 y207 x27_2).drop ((ji18) : Int).toNat) _ _ _ (fun _ => True) (fun _ => False) rfl rfl ?aO ?aR (fun _ _ h => h) (fun _ h => h.elim) ?aF ?aB ?aS ?aL ?_
                                            (case aR => first | (rw [← show ((rd_L1 y207 x27_2).drop ((ji18) : Int).toNat).length = ((rd_L1 y207 x27_2).length - (ji18).toNat) from List.length_drop]; (repeat (first | exact (Kd.C_below HR219.out HB.out) | (with_reducible refine Kd.C_alloc ?_ _) | (with_reducible refine Kd.C_drewN ?_ _) | (with_reducible refine Kd.C_drew ?_))); done) | (refine Eq.mp (congrArg (fun m_ => Kd.C _ _ _ m_ _) (show ((rd_L1 y207 x27_2).drop ((ji18) : Int).toNat).length = ((rd_L1 y207 x27_2).length - (ji18).toNat) from List.length_drop)) ?_; (repeat (first | exact (Kd.C_below HR219.out HB.out) | (with_reducible refine Kd.C_alloc ?_ _) | (with_reducible refine Kd.C_drewN ?_ _) | (with_reducible refine Kd.C_drew ?_))); done) | (repeat (first | exact (Kd.C_below HR219.out HB.out) | (with_reducible refine Kd.C_alloc ?_ _) | (with_reducible refine Kd.C_drewN ?_ _) | (with_reducible refine Kd.C_drew ?_))))
                                            (case aB => exact (by repeat (first | (with_reducible first | exact HB.out | apply below_alloc | apply pw_below_drewN | apply below_drew1) | exact HB.out)))
                                            (case aF => exact (fun _ _ => trivial))
                                            (case aO => exact (by (with_reducible repeat (first | apply Kd.R_alloc | apply Kd.R_drewN | apply Kd.R_drew)); exact HO218.out))
                                            (case aS => exact (below_size (by repeat (first | (with_reducible first | exact HB.out | apply below_alloc | apply pw_below_drewN | apply below_drew1) | exact HB.out))))
                                            (case aL => have := LMc21.out; have hlx_ := (show ((rd_L1 y207 x27_2).drop ((ji18) : Int).toNat).length = ((rd_L1 y207 x27_2).length - (ji18).toNat) from List.length_drop); omega)
                                            intro v221 w29 ho hb hg hat
                                            rw [← Ny220.out] at ho
                                            have n0_ := Aside0.mk (Kd.S_after (ok := (fun _ => True)) (by (with_reducible repeat (first | apply Kd.S_alloc | apply Kd.S_drewN | apply Kd.S_drew)); exact HO_6.out) hg hat)
                                            have n1_ := Aside0.mk (hb)
                                            have n2_ := Aside0.mk (ho)
                                            clear HO_6
                                            clear HB
                                            clear HO218
                                            have HO_6 := n0_
                                            have HB := n1_
                                            have HO222 := n2_
                                            clear n0_ n1_ n2_
                                            clear ho hb hg hat
                                            obtain ⟨Ao31, co31, eo31⟩ := Kd.R_slice HO222.out
                                            (first | subst eo31 | (injection eo31 with f1_ f2_ f3_; have f4_ := f1_.symm; have f5_ := f3_.symm; clear f1_ f2_ f3_; subst f4_; subst f5_))
                                            refine hK.out _ _ trivial (fun hHeld => ?_)
                                            clear hK K
                                            refine norm_ (a' := ?_) ?_ ?_
                                            rotate_left
                                            · show Act.put _ (some 41) _ = _
                                              simp only [Act.put, List.setIfInBounds_toArray, List.set_cons_zero, List.set_cons_succ, i64_w, i32_w]
                                              rfl
                                            refine one_ (i := 11) (N := some 42) #[true, true, true, true, true, true, true, true, true, true, true, true, false, false] rfl rfl (one_of HT_.out (by kernel_rfl)) (by decide) (fun K hK => ?_)
                                            refine value_ (w1 := ?_) (v := ?_) (by rfl) rfl ?_ ?_
                                            rotate_left 2
                                            · go_simp
                                              constructor
                                              · rfl
                                              · rfl
                                            refine hK.out _ _ trivial (fun hHeld => ?_)
                                            clear hK K
                                            refine norm_ (a' := ?_) ?_ ?_
                                            rotate_left
                                            · show Act.put _ (some 42) _ = _
                                              simp only [Act.put, List.setIfInBounds_toArray, List.set_cons_zero, List.set_cons_succ, i64_w, i32_w]
                                              rfl
                                            refine one_ (i := 12) (N := some 43) #[true, true, true, true, true, true, true, true, true, true, true, true, true, false] rfl rfl (one_of HT_.out (by kernel_rfl)) (by decide) (fun K hK => ?_)
                                            refine Kd.S_append_step (Kd.slice 5 (Kd.int .u8)) (w0 := w) w.heap.size (by rfl) (.tmp 31) (.tmp 42) 30 22 (.slice none 0 0) 24 rfl Tryd.underlying30 info22 rfl (by decide) (by omega) u6 x6_2 y220 [.slice Ao31 y220.length co31] (fun _ => True) (fun k_ => some k_ = (.slice Ao31 y220.length co31 : Value).ownBlock) rfl rfl ?aP (fun k_ hk_ => ((Kd.R_mono (ok' := fun k_ => ((fun _ => True)) k_ ∧ some k_ ≠ (u6 : Value).ownBlock) (Kd.R_apart' (HO222.out) (Kd.S_typed HO_6.out) (by decide)) (fun k_ hk => ⟨trivial, hk.2⟩))).1 k_ hk_.symm) ?aF ?aO ?aB ?aS ?aL ?_
                                            (case aP => exact Kd.M_row (Kd.R_mono (Kd.R_tight rfl (Kd.R_mono (ok' := fun k_ => ((fun _ => True)) k_ ∧ some k_ ≠ (u6 : Value).ownBlock) (Kd.R_apart' (HO222.out) (Kd.S_typed HO_6.out) (by decide)) (fun k_ hk => ⟨trivial, hk.2⟩))) (fun _ h_ => h_)))
                                            (case aB => exact (by repeat (first | (with_reducible first | exact HB.out | apply below_alloc | apply pw_below_drewN | apply below_drew1) | exact HB.out)))
                                            (case aF => exact (fun _ _ => trivial))
                                            (case aO => exact (by (with_reducible repeat (first | apply Kd.S_alloc | apply Kd.S_drewN | apply Kd.S_drew)); exact Kd.S_mono HO_6.out (fun k_ hk => ⟨trivial, fun e_ => hk.2 e_⟩)))
                                            (case aS => exact (below_size (by repeat (first | (with_reducible first | exact HB.out | apply below_alloc | apply pw_below_drewN | apply below_drew1) | exact HB.out))))
                                            (case aL => have := LMc22.out; omega)
                                            intro v224 w30 ho hb hg hat
                                            rw [← Ny223.out] at ho
                                            have n0_ := Aside0.mk (hb)
                                            have n1_ := Aside0.mk (ho)
                                            clear HB
                                            clear HO_6
                                            clear HO222
                                            have HB := n0_
                                            have HO225 := n1_
                                            clear n0_ n1_
                                            clear ho hb hg hat
                                            refine hK.out _ _ trivial (fun hHeld => ?_)
                                            clear hK K
                                            refine norm_ (a' := ?_) ?_ ?_
                                            rotate_left
                                            · show Act.put _ (some 43) _ = _
                                              simp only [Act.put, List.setIfInBounds_toArray, List.set_cons_zero, List.set_cons_succ, i64_w, i32_w]
                                              rfl
                                            refine pure_ (i := 13) (N := some 6) (v := ?_) (a' := ?_) #[true, true, true, true, true, true, true, true, true, true, true, true, true, true] rfl rfl (any_of HT_.out (by kernel_rfl)) (fun _ _ _ h => h) (Or.inl ⟨by rfl, ?_⟩) ?_ ?_
                                            rotate_left
                                            · intro w'
                                              go_simp
                                              with_reducible rfl
                                            rotate_left
                                            · simp only [Act.put, List.setIfInBounds_toArray, List.set_cons_zero, List.set_cons_succ, i64_w, i32_w]
                                              rfl
                                            refine done_ (done_of HT_.out (by kernel_rfl)) ?_
                                            try go_wp2
                                            go_roundg k2
                                            case measure => have := HK1.out; have := HK2.out; omega
                                            case rel => exact ⟨(y223), (wrap64 (x27_2 + 1)), (by first | rfl | (simp; done) | (simp [*]; done)), H', ⟨by have := HK1.out; have := HK2.out; omega⟩, ⟨by (with_reducible repeat (first | apply Kd.S_alloc | apply Kd.S_drewN | apply Kd.S_drew)); exact HO225.out⟩, ⟨by repeat (first | (with_reducible first | exact HB.out | apply below_alloc | apply pw_below_drewN | apply below_drew1) | exact HB.out)⟩⟩
                                          · rw [if_neg c22] at H
                                            exact absurd H (by simp)
                                        · rw [if_neg c21] at H
                                          exact absurd H (by simp)
                                      · rw [if_neg c20] at H
                                        exact absurd H (by simp)
                                    · rw [if_neg c19] at H
                                      exact absurd H (by simp)
                                  · rw [if_neg c17] at H
                                    exact absurd H (by simp)
                                · rw [if_neg c16] at H
                                  exact absurd H (by simp)
                              · rw [if_neg c15] at H
                                exact absurd H (by simp)
                            · rw [if_neg c14] at H
                              exact absurd H (by simp)
                          · rw [if_neg c13] at H
                            exact absurd H (by simp)
                        · rw [if_neg c12] at H
                          have c12b0 : decide (x27_2 < (y207.length : Int)) = false := decide_eq_false c12
                          clear c12
                          replace H := Option.bind_eq_some_iff.mp H
                          obtain ⟨t226, A320, H⟩ := H
                          replace H : ((spec_Mul.f k2 (rd (rd_L1 l0 0) x16_1) t226).bind fun t227 => (spec_Determinant.l0 k2 l0 (Go.bits .xor .u8 x3_1 t227) (rd_L1 l0 0) ((rd_L1 l0 0).length : Int) (wrap64 (x16_1 + 1)))) = some r := H
                          have A32 := Aside0.mk A320
                          clear A320
                          replace H := Option.bind_eq_some_iff.mp H
                          obtain ⟨t227, A330, H⟩ := H
                          replace H : (spec_Determinant.l0 k2 l0 (Go.bits .xor .u8 x3_1 t227) (rd_L1 l0 0) ((rd_L1 l0 0).length : Int) (wrap64 (x16_1 + 1))) = some r := H
                          have A33 := Aside0.mk A330
                          clear A330
                          have H' := Aside0.mk H
                          clear H
                          obtain ⟨Ao34, co34, eo34⟩ := Kd.S_slice HO_6.out
                          subst eo34
                          go_wp2_with (first | ((with_reducible refine gate_callee (f := 23) rfl ?_); refine goesL_ (some 48) rfl rfl Tryd.func23 (by kernel_rfl) rfl #[.slice Ao34 x6_2.length co34] rfl (by (try simp only [List.map_toArray, List.map_cons, List.map_nil]); first | done | rfl | (simp only [List.length_drop, List.length_take]; rfl)) ?_; (with_reducible refine (ih k2 (by have := HK1.out; have := HK2.out; omega) _ _ x6_2 t226 _ ?side1 ?side2 A32.out).mono ?_); (case side1 => repeat (first | exact (Kd.S_reads' HO_6.out).2.2 | (with_reducible refine Kd.C_alloc ?_ _) | (with_reducible refine Kd.C_drewN ?_ _) | (with_reducible refine Kd.C_drew ?_))); (case side2 => exact (Kd.S_reads' HO_6.out).2.1); rintro e w35 ⟨rfl, hb⟩; refine ⟨_, rfl, ?_⟩; have n0_ := Aside0.mk (Kd.S_below (by (with_reducible repeat (first | apply Kd.S_alloc | apply Kd.S_drewN | apply Kd.S_drew)); exact HO_6.out) hb); have n1_ := Aside0.mk (below_step (by repeat (first | (with_reducible first | exact HB.out | apply below_alloc | apply pw_below_drewN | apply below_drew1) | exact HB.out)) hb); clear HO_6; clear HB; have HO_6 := n0_; have HB := n1_; clear n0_ n1_; (try clear hb); (try clear hb2); (try clear hk); (try clear hi)) | ((with_reducible refine gate_callee (f := 39) rfl ?_); refine goesL_ (some 49) rfl rfl Tryd.func39 (by kernel_rfl) rfl #[.int .u8 (rd (rd_L1 l0 0) x16_1), .int .u8 t226] rfl (by (try simp only [List.map_toArray, List.map_cons, List.map_nil]); first | done | rfl | (simp only [List.length_drop, List.length_take]; rfl)) ?_; (with_reducible refine (spec_Mul.calls k2 (rd (rd_L1 l0 0) x16_1) t226 t227 _ A33.out).mono ?_); rintro e w' ⟨rfl, ⟨nd, rfl⟩⟩; refine ⟨_, rfl, ?_⟩))
                          go_roundg k2
                          case measure => have := HK1.out; have := HK2.out; omega
                          case rel => exact ⟨(Go.bits .xor .u8 x3_1 t227), (wrap64 (x16_1 + 1)), (by first | rfl | (simp; done) | (simp [*]; done)), (by first | rfl | (simp; done) | (simp [*]; done)), H', ⟨by have := HK1.out; have := HK2.out; omega⟩, ⟨by repeat (first | (with_reducible first | exact HB.out | apply below_alloc | apply pw_below_drewN | apply below_drew1) | exact HB.out)⟩⟩
                  · rw [if_neg c8] at H
                    exact absurd H (by simp)
              · rw [if_neg c6] at H
                exact absurd H (by simp)
            · rw [if_neg c5] at H
              exact absurd H (by simp)
          · rw [if_neg c4] at H
            have c4b0 : decide (x16_1 < ((rd_L1 l0 0).length : Int)) = false := decide_eq_false c4
            clear c4
            obtain rfl := Option.some.inj H
            go_wp2
            go_ret
            exact ⟨by first | rfl | (simp [errW_none, errW_some] <;> rfl) | (simp [*, errW_none, errW_some] <;> rfl), by repeat (first | (with_reducible first | exact HB.out | apply below_alloc | apply pw_below_drewN | apply below_drew1) | exact HB.out)⟩
    · rw [if_neg c3] at H
      exact absurd H (by simp)
def spec_Zeros.l0 : Nat → Int → List (List Int) → Int → Int → Option ((List (List Int)))
  | 0, _, _, _, _ => none
  | k + 1, x1, x5, x10, x11 => if x11 < x10 then (if 0 ≤ x1 then (if (x1 : Int).toNat ≤ 281474976710656 then (if 0 ≤ x11 then (if x11 < (x5.length : Int) then (spec_Zeros.l0 k x1 (x5.set (x11 : Int).toNat (List.replicate (x1 : Int).toNat 0)) x10 (wrap64 (x11 + 1))) else (none)) else (none)) else (none)) else (none)) else (some x5)
def spec_Zeros.f (k : Nat) (a0 : Int) (a1 : Int) : Option ((List (List Int))) := if 0 ≤ a0 then (if (a0 : Int).toNat ≤ 11728124029610 then ((some (List.replicate (a0 : Int).toNat [] : List (List Int))).bind fun y228 => (spec_Zeros.l0 k a1 y228 (y228.length : Int) 0)) else (none)) else (none)
theorem spec_Zeros.mono_l : ∀ k, (∀ y0 y1 y2 y3, LeO (spec_Zeros.l0 k y0 y1 y2 y3) (spec_Zeros.l0 (k + 1) y0 y1 y2 y3))
  | 0 => fun _ _ _ _ r h => by simp [spec_Zeros.l0] at h
  | k + 1 => by
    have ih0 := spec_Zeros.mono_l k
    · intro y0 y1 y2 y3
      unfold spec_Zeros.l0
      repeat' first
      | (with_reducible exact ih0 _ _ _ _)
      | (with_reducible exact LeO.refl _)
      | (with_reducible exact LeO.none _)
      | (with_reducible refine LeO.ite ?_ ?_)
      | (with_reducible refine LeO.bind ?_ (fun _ => ?_))
      | exact ih0 _ _ _ _
      | exact LeO.none _
      | refine LeO.ite ?_ ?_
      | refine LeO.bind ?_ (fun _ => ?_)
theorem spec_Zeros.mono : ∀ a0 a1 k, LeO (spec_Zeros.f k a0 a1) (spec_Zeros.f (k + 1) a0 a1) := by
  intro a0 a1 k
  have ih0 := spec_Zeros.mono_l k
  unfold spec_Zeros.f
  repeat' first
      | (with_reducible exact ih0 _ _ _ _)
      | (with_reducible exact LeO.refl _)
      | (with_reducible exact LeO.none _)
      | (with_reducible refine LeO.ite ?_ ?_)
      | (with_reducible refine LeO.bind ?_ (fun _ => ?_))
      | exact ih0 _ _ _ _
      | exact LeO.none _
      | refine LeO.ite ?_ ?_
      | refine LeO.bind ?_ (fun _ => ?_)
set_option maxHeartbeats 8000000 in
set_option maxRecDepth 100000 in
theorem spec_Zeros.calls (k : Nat) (a0 : Int) (a1 : Int) (r : List (List Int)) (w : World) (h : spec_Zeros.f k a0 a1 = some r) :
    Calls Tryd.prog 40 #[.int .i64 a0, .int .i64 a1] w fun e w' => ∃ v0_ : Value, e = .returned (v0_) ∧ Kd.S (Kd.slice 5 (Kd.int .u8)) 22 w' w.heap.size (fun _ => True) v0_ r ∧ Below w.heap.size w w' := by
  have HB := Aside0.mk (Below.refl w.heap.size w)
  have H : (if 0 ≤ a0 then (if (a0 : Int).toNat ≤ 11728124029610 then ((some (List.replicate (a0 : Int).toNat [] : List (List Int))).bind fun y228 => (spec_Zeros.l0 k a1 y228 (y228.length : Int) 0)) else (none)) else (none)) = some r := h
  clear h
  by_cases c3 : 0 ≤ a0
  · rw [if_pos c3] at H
    have c3b0 := eq_true c3
    have c3b1 : decide (0 ≤ a0) = true := decide_eq_true c3
    clear c3
    by_cases c4 : (a0 : Int).toNat ≤ 11728124029610
    · rw [if_pos c4] at H
      have c4b0 := eq_true c4
      have c4b1 : decide ((a0 : Int).toNat ≤ 11728124029610) = true := decide_eq_true c4
      clear c4
      obtain ⟨y228, hy228⟩ : ∃ y_ : List (List Int), y_ = (List.replicate (a0 : Int).toNat []) := ⟨_, rfl⟩
      replace H : (spec_Zeros.l0 k a1 y228 (y228.length : Int) 0) = some r := by first | (rw [hy228]; with_reducible exact H) | (have H2_ := (Option.bind_some _ _).symm.trans H; rw [hy228]; with_reducible exact H2_) | (have H2_ := (Option.bind_some _ _).symm.trans H; with_reducible exact H2_) | with_reducible exact H | (rw [hy228]; exact H) | exact H
      have Ny228 := Aside0.mk hy228
      clear hy228
      have H' := Aside0.mk H
      clear H
      go_enter Tryd.func40, Tryd.ntmps40
      go_wp2_with (first | ((with_reducible refine gate_dst (N := 8) rfl ?_); refine Kd.S_make (Kd.slice 5 (Kd.int .u8)) _ 22 rfl (N := 8) rfl 30 _ _ rfl a0 rfl rfl Tryd.underlying30 (.slice none 0 0) 24 info22 rfl (by decide) (by omega) [] (ok := fun _ => True) (okp := fun _ => True) ⟨_, rfl, Kd.R_nil _ _ _ _ _⟩ (fun _ hk => hk) trivial (of_decide_eq_true (by first | (with_reducible assumption) | assumption)) (Nat.le_trans (Nat.mul_le_mul_right _ (of_decide_eq_true (by first | (with_reducible assumption) | assumption) : a0.toNat ≤ 11728124029610)) (by omega)) (Below.refl _ _) (Nat.le_refl _) ?_; intro v229 w5 ho6 hb hg_ hnew_; clear hg_ hnew_; (first | rw [← Ny228.out] at ho6 | (simp only [Int.reduceToNat] at ho6; rw [← Ny228.out] at ho6)); have n0_ := Aside0.mk (Kd.S_lower ho6 (below_size (by repeat (first | (with_reducible first | exact HB.out | apply below_alloc | apply pw_below_drewN | apply below_drew1) | exact HB.out)))); have n1_ := Aside0.mk (below_step (by repeat (first | (with_reducible first | exact HB.out | apply below_alloc | apply pw_below_drewN | apply below_drew1) | exact HB.out)) hb); clear HB; have HO230 := n0_; have HB := n1_; clear n0_ n1_; clear hb ho6; obtain ⟨Ao7, co7, eo7⟩ := Kd.S_slice HO230.out; subst eo7))
      try simp only [Act.put, List.setIfInBounds_toArray, List.set_cons_zero, List.set_cons_succ]
      go_loopg [11] k (fun kq v11 w' => ∃ (x5_1 : List (List Int)) (x11_1 : Int), v11 = .int .i64 x11_1 ∧ Aside0 (spec_Zeros.l0 kq a1 x5_1 (y228.length : Int) x11_1 = some r) ∧ Aside0 (kq ≤ k) ∧ Aside0 (Kd.S (Kd.slice 5 (Kd.int .u8)) 22 w' w.heap.size (fun _ => True) (.slice Ao7 y228.length co7) x5_1) ∧ Aside0 (Below w.heap.size w w'))
      case atStart => exact ⟨(y228), (0), (by first | rfl | (simp; done) | (simp [*]; done)), H', ⟨Nat.le_refl _⟩, ⟨by (with_reducible repeat (first | apply Kd.S_alloc | apply Kd.S_drewN | apply Kd.S_drew)); exact HO230.out⟩, ⟨by repeat (first | (with_reducible first | exact HB.out | apply below_alloc | apply pw_below_drewN | apply below_drew1) | exact HB.out)⟩⟩
      case round =>
        clear H'
        try clear p2
        try clear c3
        try clear c3b0
        try clear c3b1
        try clear c4
        try clear c4b0
        try clear c4b1
        obtain ⟨x5_1, x11_1, rfl, HA, HK1, HO_5, HB⟩ := hrel
        have hl5_1 := (Kd.S_reads' HO_5.out).1
        rw [hl5_1] at HO_5
        (try simp only [hl5_1])
        cases gk with
        | zero => exact absurd HA.out (by simp [spec_Zeros.l0])
        | succ k1 =>
          have H := HA.out
          clear HA
          simp only [spec_Zeros.l0] at H
          by_cases c8 : x11_1 < (y228.length : Int)
          · rw [if_pos c8] at H
            have c8b0 : decide (x11_1 < (y228.length : Int)) = true := decide_eq_true c8
            clear c8
            by_cases c9 : 0 ≤ a1
            · rw [if_pos c9] at H
              have c9b0 := eq_true c9
              have c9b1 : decide (0 ≤ a1) = true := decide_eq_true c9
              clear c9
              by_cases c10 : (a1 : Int).toNat ≤ 281474976710656
              · rw [if_pos c10] at H
                have c10b0 := eq_true c10
                have c10b1 : decide ((a1 : Int).toNat ≤ 281474976710656) = true := decide_eq_true c10
                clear c10
                obtain ⟨y231, hy231⟩ : ∃ y_ : List Int, y_ = (List.replicate (a1 : Int).toNat 0) := ⟨_, rfl⟩
                replace H : (if 0 ≤ x11_1 then (if x11_1 < (x5_1.length : Int) then (spec_Zeros.l0 k1 a1 (x5_1.set (x11_1 : Int).toNat y231) (y228.length : Int) (wrap64 (x11_1 + 1))) else (none)) else (none)) = some r := by first | (rw [hy231]; with_reducible exact H) | (have H2_ := (Option.bind_some _ _).symm.trans H; rw [hy231]; with_reducible exact H2_) | (have H2_ := (Option.bind_some _ _).symm.trans H; with_reducible exact H2_) | with_reducible exact H | (rw [hy231]; exact H) | exact H
                have Ny231 := Aside0.mk hy231
                clear hy231
                by_cases c11 : 0 ≤ x11_1
                · rw [if_pos c11] at H
                  have c11b0 : decide (0 ≤ x11_1) = true := decide_eq_true c11
                  clear c11
                  by_cases c12 : x11_1 < (x5_1.length : Int)
                  · rw [if_pos c12] at H
                    have c12b0 : decide (x11_1 < (x5_1.length : Int)) = true := decide_eq_true c12
                    clear c12
                    obtain ⟨y234, hy234⟩ : ∃ y_ : List (List Int), y_ = (x5_1.set (x11_1 : Int).toNat y231) := ⟨_, rfl⟩
                    replace H : (spec_Zeros.l0 k1 a1 y234 (y228.length : Int) (wrap64 (x11_1 + 1))) = some r := by first | (rw [hy234]; with_reducible exact H) | (have H2_ := (Option.bind_some _ _).symm.trans H; rw [hy234]; with_reducible exact H2_) | (have H2_ := (Option.bind_some _ _).symm.trans H; with_reducible exact H2_) | with_reducible exact H | (rw [hy234]; exact H) | exact H
                    have Ny234 := Aside0.mk hy234
                    clear hy234
                    have H' := Aside0.mk H
                    clear H
                    go_wp2_with (first | ((with_reducible refine gate_dst (N := 17) rfl ?_); refine Kd.R_make (Kd.int .u8) _ 5 rfl (N := 17) rfl 22 _ _ rfl a1 rfl rfl Tryd.underlying22 (.int .u8 0) 1 info5 rfl (by decide) (by omega) 0 (ok := fun _ => True) (okp := fun _ => True) rfl (fun _ hk => hk) trivial (of_decide_eq_true (by first | (with_reducible assumption) | assumption)) (Nat.le_trans (Nat.mul_le_mul_right _ (of_decide_eq_true (by first | (with_reducible assumption) | assumption) : a1.toNat ≤ 281474976710656)) (by omega)) (Below.refl _ _) (Nat.le_refl _) ?_; intro v232 w14 ho15 hb hg_ hnew_; clear hg_ hnew_; (first | rw [← Ny231.out] at ho15 | (simp only [Int.reduceToNat] at ho15; rw [← Ny231.out] at ho15)); have n0_ := Aside0.mk (Kd.S_elder' (by (with_reducible repeat (first | apply Kd.S_alloc | apply Kd.S_drewN | apply Kd.S_drew)); exact HO_5.out) (Kd.R_base ho15) hb); have n1_ := Aside0.mk (Kd.R_lower ho15 (below_size (by repeat (first | (with_reducible first | exact HB.out | apply below_alloc | apply pw_below_drewN | apply below_drew1) | exact HB.out)))); have n2_ := Aside0.mk (below_step (by repeat (first | (with_reducible first | exact HB.out | apply below_alloc | apply pw_below_drewN | apply below_drew1) | exact HB.out)) hb); clear HO_5; clear HB; have HO_5 := n0_; have HO233 := n1_; have HB := n2_; clear n0_ n1_ n2_; clear hb ho15; have p13 : 0 ≤ (x11_1 : Int) := of_decide_eq_true (by first | (with_reducible assumption) | assumption); have q13 : (x11_1 : Int) < ((x5_1.length : Int) : Int) := of_decide_eq_true (by first | (with_reducible assumption) | assumption); obtain ⟨go13, co13, eo13, gb13, gl13, cl13, HG13⟩ := Kd.S_form HO_5.out (by omega); (first | cases eo13 | (injection eo13 with ea_ en_ ec_; (first | subst ea_ | (injection ea_ with ea_; subst ea_)); subst ec_; clear en_)); have GB13 := Aside0.mk gb13; have GG13 := Aside0.mk HG13; clear gb13 gl13 HG13; obtain ⟨_, ce13, hcl13, hM13, hcc13, hfr13, _, _⟩ := Kd.S_elem HO_5.out [] (x11_1 : Int) p13 q13; obtain ⟨ve13_0, rfl, ge13_0⟩ := hM13; have hx13_0 := hcc13 0 _ rfl; have hf13_0 := hfr13 0; (try simp only [show ((Kd.slice 5 (Kd.int .u8))).sz = 1 from rfl, Nat.mul_one, Nat.add_zero] at hx13_0); (try simp only [show ((Kd.slice 5 (Kd.int .u8))).sz = 1 from rfl, Nat.mul_one, Nat.add_zero] at hf13_0); (try clear hM13); clear hcl13 hcc13 hfr13; replace p13 := eq_true p13; replace q13 := eq_true q13; have n_ := Aside0.mk (Kd.S_mono (ok' := (fun k_ => some k_ ≠ (v232 : Value).ownBlock)) HO_5.out (fun k_ hk => hk.2)); clear HO_5; have HO_5 := n_; clear n_; have HX16 := Aside0.mk (show Kd.S (Kd.slice 5 (Kd.int .u8)) 22 w14 w.heap.size (fun k_ => ((fun _ => True)) k_ ∧ ¬ ((fun k_ => some k_ = (v232 : Value).ownBlock)) k_) (.slice (some ⟨go13, 0, none⟩) x5_1.length co7) x5_1 from (by (with_reducible repeat (first | apply Kd.S_alloc | apply Kd.S_drewN | apply Kd.S_drew)); exact Kd.S_mono HO_5.out (fun k_ hk => ⟨trivial, fun e_ => hk e_⟩))); obtain ⟨oki16, ce16, hcl16, hM16, hcc16, hfr16, hoki16, hH16⟩ := Kd.S_elem HX16.out [] (x11_1 : Int) (of_decide_eq_true (by first | (with_reducible assumption) | assumption)) (by have h_ : (x11_1 : Int) < ((x5_1.length : Int) : Int) := of_decide_eq_true (by first | (with_reducible assumption) | assumption); first | exact h_ | (have e_ := (Kd.S_reads' HO_5.out).1; omega) | simpa using h_); obtain ⟨ve16_0, rfl, ge16_0⟩ := hM16; have HP16 := Kd.S_seg hH16 (of_decide_eq_true (by first | (with_reducible assumption) | assumption)) (by have h_ : (x11_1 : Int) < ((x5_1.length : Int) : Int) := of_decide_eq_true (by first | (with_reducible assumption) | assumption); first | exact h_ | (have e_ := (Kd.S_reads' HO_5.out).1; omega) | simpa using h_) (seg := [v232]) (j := 0) (show 1 ≤ 1 from by decide) (x' := y231) (Kd.M_row (Kd.R_mono (Kd.R_tight rfl (Kd.R_mono (ok' := fun k_ => ((fun _ => True)) k_ ∧ k_ ≠ go13) (Kd.R_apart' (HO233.out) (Kd.S_typed HO_5.out) (by decide)) (fun k_ hk => ⟨trivial, fun e_ => (hk.2) (by rw [e_]; rfl)⟩))) (fun _ h_ => Or.inr (h_)))) (fun _ hk => hk) (fun k_ hk_ => ((Kd.R_mono (ok' := fun k_ => ((fun _ => True)) k_ ∧ k_ ≠ go13) (Kd.R_apart' (HO233.out) (Kd.S_typed HO_5.out) (by decide)) (fun k_ hk => ⟨trivial, fun e_ => (hk.2) (by rw [e_]; rfl)⟩))).1 k_ hk_.symm); have hx16_0 := hcc16 0 _ rfl; (try simp only [show ((Kd.slice 5 (Kd.int .u8))).sz = 1 from rfl, Nat.mul_one, Nat.add_zero] at hx16_0); have hf16_0 := hfr16 0; (try simp only [show ((Kd.slice 5 (Kd.int .u8))).sz = 1 from rfl, Nat.mul_one, Nat.add_zero] at hf16_0); (try clear hM16); clear hcl16 hcc16 hfr16 hoki16 hH16; (try simp only [show ((Kd.slice 5 (Kd.int .u8))).sz = 1 from rfl, Nat.mul_one, Nat.add_zero] at HP16)) | ((with_reducible refine gate_store (t := 22) (p := 18) rfl ?_); obtain ⟨Az_, cz_, ez_⟩ := Kd.R_slice HO233.out; refine store_event (t := 22) (p := 18) (v := ?vo_w17) (w1 := (w14.setCell ⟨go13, (x11_1 : Int).toNat, none⟩ (v232))) ?hg ?ho ?hn ?hr ?_; (case ho => rfl); (case hg => rfl); (case hn => rfl); (case hr => first | (go_simp; done) | (go_simp; rfl)); intro w17 hw; have hg : w14.grownBy w17 (some go13) := (by rw [hw]; exact HP16.2); have hp_ : Kd.S (Kd.slice 5 (Kd.int .u8)) 22 w17 w.heap.size (fun _ => True) (.slice (some ⟨go13, 0, none⟩) x5_1.length co7) y234 := (by rw [hw, Ny234.out]; exact HP16.1); clear HP16; have n0_ := Aside0.mk (hp_); have n1_ := Aside0.mk ((by rw [hw]; exact below_set (HB.out) GB13.out : Below w.heap.size w w17)); clear HO_5; clear HB; clear HO233; have HO_5 := n0_; have HB := n1_; clear n0_ n1_; clear hg hw hp_))
                    (try simp only [← hl5_1])
                    go_roundg k1
                    case measure => have := HK1.out; omega
                    case rel => exact ⟨(y234), (wrap64 (x11_1 + 1)), (by first | rfl | (simp; done) | (simp [*]; done)), H', ⟨by have := HK1.out; omega⟩, ⟨by (try simp only [hl5_1]); (with_reducible repeat (first | apply Kd.S_alloc | apply Kd.S_drewN | apply Kd.S_drew)); exact HO_5.out⟩, ⟨by repeat (first | (with_reducible first | exact HB.out | apply below_alloc | apply pw_below_drewN | apply below_drew1) | exact HB.out)⟩⟩
                  · rw [if_neg c12] at H
                    exact absurd H (by simp)
                · rw [if_neg c11] at H
                  exact absurd H (by simp)
              · rw [if_neg c10] at H
                exact absurd H (by simp)
            · rw [if_neg c9] at H
              exact absurd H (by simp)
          · rw [if_neg c8] at H
            have c8b0 : decide (x11_1 < (y228.length : Int)) = false := decide_eq_false c8
            (try rw [hl5_1] at c8b0)
            clear c8
            obtain rfl := Option.some.inj H
            go_wp2
            go_ret
            exact ⟨_, by first | rfl | (simp [errW_none, errW_some] <;> rfl) | (simp [*, errW_none, errW_some] <;> rfl), by (with_reducible repeat (first | apply Kd.S_alloc | apply Kd.S_drewN | apply Kd.S_drew)); exact HO_5.out, by repeat (first | (with_reducible first | exact HB.out | apply below_alloc | apply pw_below_drewN | apply below_drew1) | exact HB.out)⟩
    · rw [if_neg c4] at H
      exact absurd H (by simp)
  · rw [if_neg c3] at H
    exact absurd H (by simp)
end Go.Proofs.YtpeikjnkbjabpaaDoor.P
