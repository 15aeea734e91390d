-- laid by xprint.py (a program of this session over the kit's print); Lean checks it
import Derived.Test.YtpeikjnkbjabpaaDoorX0
namespace Go.Proofs.YtpeikjnkbjabpaaDoor.X
open Go.RowKit Go.Proofs.YtpeikjnkbjabpaaDoorW.PrintWords Go.Proofs.YtpeikjnkbjabpaaDoorW.PrintLast Go.Proofs.YtpeikjnkbjabpaaDoorW.PrintMore
attribute [local go_sem] max2_int min2_int max_two min_two max_three min_three max_four min_four   -- for this text's walks alone
set_option linter.unusedVariables false
set_option linter.unusedSimpArgs false

/-! ### spec_Beside: function 20 -/
def spec_Beside.l0 : Nat → List (List Int) → List (List Int) → List (List Int) → Int → Int → Option ((List (List Int)))
  | 0, _, _, _, _, _ => none
  | k + 1, x0, x1, x5, x9, x10 => if x10 < x9 then ((some (([] : List Int) : List Int)).bind fun y214 => (if 0 ≤ x10 then (if x10 < (x0.length : Int) then (if y214.length + (rd_L1 x0 x10).length < 140737488355328 then ((some (y214 ++ (rd_L1 x0 x10) : List Int)).bind fun y218 => (if x10 < (x1.length : Int) then (if y218.length + (rd_L1 x1 x10).length < 140737488355328 then (if x5.length < 5864062014805 then (spec_Beside.l0 k x0 x1 (x5 ++ [(y218 ++ (rd_L1 x1 x10))]) x9 (wrap64 (x10 + 1))) else (none)) else (none)) else (none))) else (none)) else (none)) else (none))) else (some x5)
def spec_Beside.f (k : Nat) (l0 : List (List Int)) (l1 : List (List Int)) : Option ((List (List Int))) := spec_Beside.l0 k l0 l1 (([] : List (List Int))) (l0.length : Int) 0
theorem spec_Beside.mono_l : ∀ k, (∀ y0 y1 y2 y3 y4, LeO (spec_Beside.l0 k y0 y1 y2 y3 y4) (spec_Beside.l0 (k + 1) y0 y1 y2 y3 y4))
  | 0 => fun _ _ _ _ _ r h => by simp [spec_Beside.l0] at h
  | k + 1 => by
    have ih0 := spec_Beside.mono_l k
    · intro y0 y1 y2 y3 y4
      unfold spec_Beside.l0
      repeat' first
      | (with_reducible exact ih0 _ _ _ _ _)
      | (with_reducible exact LeO.refl _)
      | (with_reducible exact LeO.none _)
      | (with_reducible refine LeO.ite ?_ ?_)
      | (with_reducible refine LeO.bind ?_ (fun _ => ?_))
      | exact ih0 _ _ _ _ _
      | exact LeO.none _
      | refine LeO.ite ?_ ?_
      | refine LeO.bind ?_ (fun _ => ?_)
theorem spec_Beside.mono : ∀ a0 a1 k, LeO (spec_Beside.f k a0 a1) (spec_Beside.f (k + 1) a0 a1) := by
  intro a0 a1 k
  have ih0 := spec_Beside.mono_l k
  unfold spec_Beside.f
  repeat' first
      | (with_reducible exact ih0 _ _ _ _ _)
      | (with_reducible exact LeO.refl _)
      | (with_reducible exact LeO.none _)
      | (with_reducible refine LeO.ite ?_ ?_)
      | (with_reducible refine LeO.bind ?_ (fun _ => ?_))
      | exact ih0 _ _ _ _ _
      | exact LeO.none _
      | refine LeO.ite ?_ ?_
      | refine LeO.bind ?_ (fun _ => ?_)
def spec_Beside.T5 : Bool × List (List Nat × List Nat) := (true, [([], []), ([], []), ([], []), ([], []), ([2, 3], [2, 3]), ([4], [4]), ([1, 5], [1, 5]), ([], []), ([], []), ([7, 8], [7, 8]), ([9], [9]), ([6, 10, 6], [6, 10]), ([11], [11]), ([0, 12, 11], [0, 12]), ([13, 13, 0, 1, 2, 3, 4, 5, 6, 7, 8, 9, 10, 11, 12, 13], [0, 13])])
def spec_Beside.B5 : List Nat := [0, 0, 0, 0, 12, 28, 62, 0, 0, 384, 896, 2046, 4094, 8191, 16383]
theorem spec_Beside.tab5 : rtab .any (opsOf Tryd.f20 5) = spec_Beside.T5 := by kernel_rfl
theorem spec_Beside.bits5 : waitsOk spec_Beside.T5.2 spec_Beside.B5 = true := by kernel_rfl
set_option maxHeartbeats 8000000 in
set_option maxRecDepth 100000 in
theorem spec_Beside.calls (k : Nat) (A0 : Option Addr) (c0 : Nat) (l0 : List (List Int)) (A1 : Option Addr) (c1 : Nat) (l1 : List (List Int)) (r : List (List Int)) (w : World) (hr0 : Kd.C (Kd.slice 5 (Kd.int .u8)) w A0 l0.length l0) (hc0 : l0.length ≤ c0) (hr1 : Kd.C (Kd.slice 5 (Kd.int .u8)) w A1 l1.length l1) (hc1 : l1.length ≤ c1) (h : spec_Beside.f k l0 l1 = some r) :
    Calls Tryd.prog 20 #[.slice A0 l0.length c0, .slice A1 l1.length c1] w fun e w' => ∃ v0_ : Value, e = .returned (v0_) ∧ Kd.S (Kd.slice 5 (Kd.int .u8)) 22 w' w.heap.size (fun _ => True) v0_ r ∧ Below w.heap.size w w' := by
  have HR0 := Aside0.mk hr0
  have HC0 := Aside0.mk hc0
  clear hr0 hc0
  have HR1 := Aside0.mk hr1
  have HC1 := Aside0.mk hc1
  clear hr1 hc1
  have HB := Aside0.mk (Below.refl w.heap.size w)
  have H : (spec_Beside.l0 k l0 l1 (([] : List (List Int))) (l0.length : Int) 0) = some r := h
  clear h
  obtain ⟨y211, hy211⟩ : ∃ y_ : List (List Int), y_ = (([] : List (List Int))) := ⟨_, rfl⟩
  replace H : (spec_Beside.l0 k l0 l1 y211 (l0.length : Int) 0) = some r := by first | (rw [hy211]; with_reducible exact H) | (have H2_ := (Option.bind_some _ _).symm.trans H; rw [hy211]; with_reducible exact H2_) | (have H2_ := (Option.bind_some _ _).symm.trans H; with_reducible exact H2_) | with_reducible exact H | (rw [hy211]; exact H) | exact H
  have Ny211 := Aside0.mk hy211
  clear hy211
  have H' := Aside0.mk H
  clear H
  go_enter Tryd.func20, Tryd.ntmps20
  go_wp2_with (first | ((with_reducible refine gate_dst (N := 7) rfl ?_); refine Kd.S_lit (Kd.slice 5 (Kd.int .u8)) _ 22 ?hg (N := 7) ?hd (xs := ([] : List (List Int))) (inner := []) (ok := fun _ => True) (okp := fun _ => True) ?hr ?hp (fun _ hk => hk) trivial (Below.refl _ _) (Nat.le_refl _) (by simp) ?_; (case hd => rfl); (case hg => rfl); (case hr => first | (go_simp; done) | (go_simp; rfl)); (case hp => exact (Reps.none _ _)); intro v212 w3 ho4 hb hg_ hnew_; clear hg_ hnew_; (first | rw [← Ny211.out] at ho4 | (simp only [Int.reduceToNat] at ho4; rw [← Ny211.out] at ho4)); have n0_ := Aside0.mk (Kd.S_lower ho4 (below_size (by repeat (first | (with_reducible first | exact HB.out | apply below_alloc | apply pw_below_drewN | apply below_drew1) | exact HB.out)))); have n1_ := Aside0.mk (below_step (by repeat (first | (with_reducible first | exact HB.out | apply below_alloc | apply pw_below_drewN | apply below_drew1) | exact HB.out)) hb); clear HB; have HO213 := n0_; have HB := n1_; clear n0_ n1_; clear hb ho4))
  try simp only [Act.put, List.setIfInBounds_toArray, List.set_cons_zero, List.set_cons_succ]
  go_loopg [5, 10] k (fun kq v5 v10 w' => ∃ (x5_1 : List (List Int)) (x10_1 : Int), v10 = .int .i64 x10_1 ∧ Aside0 (spec_Beside.l0 kq l0 l1 x5_1 (l0.length : Int) x10_1 = some r) ∧ Aside0 (kq ≤ k) ∧ Aside0 (Kd.S (Kd.slice 5 (Kd.int .u8)) 22 w' w.heap.size (fun _ => True) v5 x5_1) ∧ Aside0 (Below w.heap.size w w'))
  case atStart => exact ⟨(y211), (0), (by first | rfl | (simp; done) | (simp [*]; done)), H', ⟨Nat.le_refl _⟩, ⟨by (with_reducible repeat (first | apply Kd.S_alloc | apply Kd.S_drewN | apply Kd.S_drew)); exact HO213.out⟩, ⟨by repeat (first | (with_reducible first | exact HB.out | apply below_alloc | apply pw_below_drewN | apply below_drew1) | exact HB.out)⟩⟩
  case round =>
    clear H'
    try clear c1
    try clear c2
    try clear p2
    obtain ⟨x5_1, x10_1, rfl, HA, HK1, HO_5, HB⟩ := hrel
    cases gk with
    | zero => exact absurd HA.out (by simp [spec_Beside.l0])
    | succ k1 =>
      have H := HA.out
      clear HA
      simp only [spec_Beside.l0] at H
      by_cases c5 : x10_1 < (l0.length : Int)
      · rw [if_pos c5] at H
        have c5b0 : decide (x10_1 < (l0.length : Int)) = true := decide_eq_true c5
        clear c5
        obtain ⟨y214, hy214⟩ : ∃ y_ : List Int, y_ = (([] : List Int)) := ⟨_, rfl⟩
        replace H : (if 0 ≤ x10_1 then (if x10_1 < (l0.length : Int) then (if y214.length + (rd_L1 l0 x10_1).length < 140737488355328 then ((some (y214 ++ (rd_L1 l0 x10_1) : List Int)).bind fun y218 => (if x10_1 < (l1.length : Int) then (if y218.length + (rd_L1 l1 x10_1).length < 140737488355328 then (if x5_1.length < 5864062014805 then (spec_Beside.l0 k1 l0 l1 (x5_1 ++ [(y218 ++ (rd_L1 l1 x10_1))]) (l0.length : Int) (wrap64 (x10_1 + 1))) else (none)) else (none)) else (none))) else (none)) else (none)) else (none)) = some r := by first | (rw [hy214]; with_reducible exact H) | (have H2_ := (Option.bind_some _ _).symm.trans H; rw [hy214]; with_reducible exact H2_) | (have H2_ := (Option.bind_some _ _).symm.trans H; with_reducible exact H2_) | with_reducible exact H | (rw [hy214]; exact H) | exact H
        have Ny214 := Aside0.mk hy214
        clear hy214
        by_cases c6 : 0 ≤ x10_1
        · rw [if_pos c6] at H
          have c6b0 : decide (0 ≤ x10_1) = true := decide_eq_true c6
          clear c6
          by_cases c7 : x10_1 < (l0.length : Int)
          · rw [if_pos c7] at H
            have c7b0 : decide (x10_1 < (l0.length : Int)) = true := decide_eq_true c7
            clear c7
            by_cases c8 : y214.length + (rd_L1 l0 x10_1).length < 140737488355328
            · rw [if_pos c8] at H
              have LMc8 := Aside0.mk c8
              clear c8
              obtain ⟨y218, hy218⟩ : ∃ y_ : List Int, y_ = (y214 ++ (rd_L1 l0 x10_1)) := ⟨_, rfl⟩
              replace H : (if x10_1 < (l1.length : Int) then (if y218.length + (rd_L1 l1 x10_1).length < 140737488355328 then (if x5_1.length < 5864062014805 then (spec_Beside.l0 k1 l0 l1 (x5_1 ++ [(y218 ++ (rd_L1 l1 x10_1))]) (l0.length : Int) (wrap64 (x10_1 + 1))) else (none)) else (none)) else (none)) = some r := by first | (rw [hy218]; with_reducible exact H) | (have H2_ := (Option.bind_some _ _).symm.trans H; rw [hy218]; with_reducible exact H2_) | (have H2_ := (Option.bind_some _ _).symm.trans H; with_reducible exact H2_) | with_reducible exact H | (rw [hy218]; exact H) | exact H
              have Ny218 := Aside0.mk hy218
              clear hy218
              by_cases c9 : x10_1 < (l1.length : Int)
              · rw [if_pos c9] at H
                have c9b0 : decide (x10_1 < (l1.length : Int)) = true := decide_eq_true c9
                clear c9
                by_cases c10 : y218.length + (rd_L1 l1 x10_1).length < 140737488355328
                · rw [if_pos c10] at H
                  have LMc10 := Aside0.mk c10
                  clear c10
                  obtain ⟨y222, hy222⟩ : ∃ y_ : List Int, y_ = (y218 ++ (rd_L1 l1 x10_1)) := ⟨_, rfl⟩
                  replace H : (if x5_1.length < 5864062014805 then (spec_Beside.l0 k1 l0 l1 (x5_1 ++ [y222]) (l0.length : Int) (wrap64 (x10_1 + 1))) else (none)) = some r := by first | (rw [hy222]; with_reducible exact H) | (have H2_ := (Option.bind_some _ _).symm.trans H; rw [hy222]; with_reducible exact H2_) | (have H2_ := (Option.bind_some _ _).symm.trans H; with_reducible exact H2_) | with_reducible exact H | (rw [hy222]; exact H) | exact H
                  have Ny222 := Aside0.mk hy222
                  clear hy222
                  by_cases c11 : x5_1.length < 5864062014805
                  · rw [if_pos c11] at H
                    have LMc11 := Aside0.mk c11
                    clear c11
                    obtain ⟨y225, hy225⟩ : ∃ y_ : List (List Int), y_ = (x5_1 ++ [y222]) := ⟨_, rfl⟩
                    replace H : (spec_Beside.l0 k1 l0 l1 y225 (l0.length : Int) (wrap64 (x10_1 + 1))) = some r := by first | (rw [hy225]; with_reducible exact H) | (have H2_ := (Option.bind_some _ _).symm.trans H; rw [hy225]; with_reducible exact H2_) | (have H2_ := (Option.bind_some _ _).symm.trans H; with_reducible exact H2_) | with_reducible exact H | (rw [hy225]; exact H) | exact H
                    have Ny225 := Aside0.mk hy225
                    clear hy225
                    have H' := Aside0.mk H
                    clear H
                    try go_wp2
                    have n0_ := Aside0.mk (Kd.S_drew HO_5.out)
                    have n1_ := Aside0.mk (below_drew1 HB.out)
                    clear HO_5
                    clear HB
                    have HO_5 := n0_
                    have HB := n1_
                    clear n0_ n1_
                    have p217 : 0 ≤ (x10_1 : Int) := of_decide_eq_true (by first | (with_reducible assumption) | assumption)
                    have q217 : x10_1 < (l0.length : Int) := of_decide_eq_true (by first | (with_reducible assumption) | assumption)
                    obtain ⟨ad217, A217_0, c217_0, e217, hx217_0, hl217_0, hi217_0⟩ := at_L1 HR0.out x10_1 p217 q217
                    have hw217_0 := hx217_0
                    cases e217
                    (try replace hx217_0 := (HB.out.cell (World.block_lt_of_cell? w _ hx217_0)).trans hx217_0)
                    have HR217_0 := Aside0.mk hi217_0
                    have HC217_0 := Aside0.mk hl217_0
                    clear hi217_0 hl217_0
                    replace p217 := eq_true p217
                    replace q217 := eq_true q217
                    have p221 : 0 ≤ (x10_1 : Int) := of_decide_eq_true (by first | (with_reducible assumption) | assumption)
                    have q221 : x10_1 < (l1.length : Int) := of_decide_eq_true (by first | (with_reducible assumption) | assumption)
                    obtain ⟨ad221, A221_0, c221_0, e221, hx221_0, hl221_0, hi221_0⟩ := at_L1 HR1.out x10_1 p221 q221
                    have hw221_0 := hx221_0
                    cases e221
                    (try replace hx221_0 := (HB.out.cell (World.block_lt_of_cell? w _ hx221_0)).trans hx221_0)
                    have HR221_0 := Aside0.mk hi221_0
                    have HC221_0 := Aside0.mk hl221_0
                    clear hi221_0 hl221_0
                    replace p221 := eq_true p221
                    replace q221 := eq_true q221
                    refine start_ (n := 15) (S := fun w' => w'.cell? (ad217.add (x10_1).toNat) = some (.slice A217_0 (rd_L1 l0 x10_1).length c217_0) ∧ w'.cell? (ad221.add (x10_1).toNat) = some (.slice A221_0 (rd_L1 l1 x10_1).length c221_0)) (ds := []) #[false, false, false, false, false, false, false, false, false, false, false, false, false, false, false] (by kernel_rfl) rfl rfl ⟨((HB.out.cell (World.block_lt_of_cell? w _ hw217_0)).trans hw217_0), ((HB.out.cell (World.block_lt_of_cell? w _ hw221_0)).trans hw221_0)⟩ (fun hHeld => ?_); refine with_tabW spec_Beside.tab5 spec_Beside.bits5 (fun HT_ HW_ => ?_)
                    generalize wr.drew = w12 at HO_5 HB HR217_0 HR221_0 hx217_0 hx221_0 hHeld ⊢
                    refine pure_ (i := 0) (N := some 13) (v := ?_) (a' := ?_) #[true, false, false, false, false, false, false, false, false, false, false, false, false, false, false] rfl rfl (any_of HT_.out (by kernel_rfl)) (fun _ _ _ h => h) (Or.inl ⟨by rfl, ?_⟩) ?_ ?_
                    rotate_left
                    · intro w'
                      go_simp
                      with_reducible rfl
                    rotate_left
                    · simp only [Act.put, List.setIfInBounds_toArray, List.set_cons_zero, List.set_cons_succ, i64_w, i32_w]
                      rfl
                    refine pure_ (i := 2) (N := some 15) (v := ?_) (a' := ?_) #[true, false, true, false, false, false, false, false, false, false, false, false, false, false, false] rfl rfl (any_of HT_.out (by kernel_rfl)) (fun _ _ _ h => h) (Or.inl ⟨by rfl, ?_⟩) ?_ ?_
                    rotate_left
                    · intro w'
                      go_simp
                      with_reducible rfl
                    rotate_left
                    · simp only [Act.put, List.setIfInBounds_toArray, List.set_cons_zero, List.set_cons_succ, i64_w, i32_w]
                      rfl
                    refine pure_ (i := 3) (N := some 16) (v := ?_) (a' := ?_) #[true, false, true, true, false, false, false, false, false, false, false, false, false, false, false] rfl rfl (any_of HT_.out (by kernel_rfl)) (fun _ _ _ h => h) (Or.inl ⟨by rfl, ?_⟩) ?_ ?_
                    rotate_left
                    · intro w'
                      go_simp
                      with_reducible rfl
                    rotate_left
                    · simp only [Act.put, List.setIfInBounds_toArray, List.set_cons_zero, List.set_cons_succ, i64_w, i32_w]
                      rfl
                    refine pure_ (i := 4) (N := some 17) (v := ?_) (a' := ?_) #[true, false, true, true, true, false, false, false, false, false, false, false, false, false, false] rfl rfl (any_of HT_.out (by kernel_rfl)) (fun _ _ _ h => h) (Or.inl ⟨by rfl, ?_⟩) ?_ ?_
                    rotate_left
                    · intro w'
                      go_simp
                      with_reducible rfl
                    rotate_left
                    · simp only [Act.put, List.setIfInBounds_toArray, List.set_cons_zero, List.set_cons_succ, i64_w, i32_w]
                      rfl
                    refine pure_ (i := 7) (N := some 20) (v := ?_) (a' := ?_) #[true, false, true, true, true, false, false, true, false, false, false, false, false, false, false] rfl rfl (any_of HT_.out (by kernel_rfl)) (fun _ _ _ h => h) (Or.inl ⟨by rfl, ?_⟩) ?_ ?_
                    rotate_left
                    · intro w'
                      go_simp
                      with_reducible rfl
                    rotate_left
                    · simp only [Act.put, List.setIfInBounds_toArray, List.set_cons_zero, List.set_cons_succ, i64_w, i32_w]
                      rfl
                    refine pure_ (i := 8) (N := some 21) (v := ?_) (a' := ?_) #[true, false, true, true, true, false, false, true, true, false, false, false, false, false, false] rfl rfl (any_of HT_.out (by kernel_rfl)) (fun _ _ _ h => h) (Or.inl ⟨by rfl, ?_⟩) ?_ ?_
                    rotate_left
                    · intro w'
                      go_simp
                      with_reducible rfl
                    rotate_left
                    · simp only [Act.put, List.setIfInBounds_toArray, List.set_cons_zero, List.set_cons_succ, i64_w, i32_w]
                      rfl
                    refine pure_ (i := 9) (N := some 22) (v := ?_) (a' := ?_) #[true, false, true, true, true, false, false, true, true, true, false, false, false, false, false] rfl rfl (any_of HT_.out (by kernel_rfl)) (fun _ _ _ h => h) (Or.inl ⟨by rfl, ?_⟩) ?_ ?_
                    rotate_left
                    · intro w'
                      go_simp
                      with_reducible rfl
                    rotate_left
                    · simp only [Act.put, List.setIfInBounds_toArray, List.set_cons_zero, List.set_cons_succ, i64_w, i32_w]
                      rfl
                    refine take_ (i := 5) (N := some 18) (v := ?_) (a' := ?_) #[true, false, true, true, true, true, false, true, true, true, false, false, false, false, false] rfl rfl (take_ofW HT_.out HW_.out (by kernel_rfl)) (fun _ _ _ h => h) (Or.inl ⟨by rfl, ?_⟩) hHeld ?_ ?_
                    rotate_left
                    · rintro w' ⟨s0, s1⟩
                      go_simp
                      with_reducible rfl
                    rotate_left
                    · simp only [Act.put, List.setIfInBounds_toArray, List.set_cons_zero, List.set_cons_succ, i64_w, i32_w]
                      rfl
                    refine take_ (i := 10) (N := some 23) (v := ?_) (a' := ?_) #[true, false, true, true, true, true, false, true, true, true, true, false, false, false, false] rfl rfl (take_ofW HT_.out HW_.out (by kernel_rfl)) (fun _ _ _ h => h) (Or.inl ⟨by rfl, ?_⟩) hHeld ?_ ?_
                    rotate_left
                    · rintro w' ⟨s0, s1⟩
                      go_simp
                      with_reducible rfl
                    rotate_left
                    · simp only [Act.put, List.setIfInBounds_toArray, List.set_cons_zero, List.set_cons_succ, i64_w, i32_w]
                      rfl
                    refine one_ (i := 1) (N := some 14) #[true, true, true, true, true, true, false, true, true, true, true, false, false, false, false] rfl rfl (one_of HT_.out (by kernel_rfl)) (by decide) (fun K hK => ?_)
                    refine Kd.R_lit_step (Kd.int .u8) _ 5 ?hg (N := 14) ?hd (xs := ([] : List Int)) (inner := []) (ok := fun _ => True) (okp := fun _ => True) ?hr ?hp (fun _ hk => hk) trivial (Below.refl _ _) (Nat.le_refl _) (by simp) ?_; (case hd => rfl); (case hg => rfl); (case hr => first | (go_simp; done) | (go_simp; rfl)); (case hp => exact (Reps.none _ _))
                    intro v215 w13 ho14 hb hg_ hnew_
                    clear hg_ hnew_
                    (first | rw [← Ny214.out] at ho14 | (simp only [Int.reduceToNat] at ho14; rw [← Ny214.out] at ho14))
                    have n0_ := Aside0.mk (Kd.S_elder' (by (with_reducible repeat (first | apply Kd.S_alloc | apply Kd.S_drewN | apply Kd.S_drew)); exact HO_5.out) (Kd.R_base ho14) hb)
                    have n1_ := Aside0.mk (Kd.R_lower ho14 (below_size (by repeat (first | (with_reducible first | exact HB.out | apply below_alloc | apply pw_below_drewN | apply below_drew1) | exact HB.out))))
                    have n2_ := Aside0.mk (below_step (by repeat (first | (with_reducible first | exact HB.out | apply below_alloc | apply pw_below_drewN | apply below_drew1) | exact HB.out)) hb)
                    clear HO_5
                    clear HB
                    have HO_5 := n0_
                    have HO216 := n1_
                    have HB := n2_
                    clear n0_ n1_ n2_
                    clear hb ho14
                    refine hK.out _ _ ⟨((HB.out.cell (World.block_lt_of_cell? w _ hw217_0)).trans hw217_0), ((HB.out.cell (World.block_lt_of_cell? w _ hw221_0)).trans hw221_0)⟩ (fun hHeld => ?_)
                    clear hK K
                    refine norm_ (a' := ?_) ?_ ?_
                    rotate_left
                    · show Act.put _ (some 14) _ = _
                      simp only [Act.put, List.setIfInBounds_toArray, List.set_cons_zero, List.set_cons_succ, i64_w, i32_w]
                      rfl
                    refine one_ (i := 6) (N := some 19) #[true, true, true, true, true, true, true, true, true, true, true, false, false, false, false] rfl rfl (one_of HT_.out (by kernel_rfl)) (by decide) (fun K hK => ?_)
                    refine Kd.R_append_rows_step (Kd.int .u8) (w0 := w) w.heap.size (by rfl) (.tmp 14) (.tmp 18) 22 5 (.int .u8 0) 1 rfl Tryd.underlying22 info5 rfl (by decide) (by omega) v215 y214 (rd_L1 l0 x10_1) _ _ _ (fun _ => True) (fun _ => False) rfl rfl ?aO ?aR (fun _ _ h => h) (fun _ h => h.elim) ?aF ?aB ?aS ?aL ?_
                    (case aR => repeat (first | exact (Kd.C_below HR217_0.out HB.out) | (with_reducible refine Kd.C_alloc ?_ _) | (with_reducible refine Kd.C_drewN ?_ _) | (with_reducible refine Kd.C_drew ?_)))
                    (case aB => exact (by repeat (first | (with_reducible first | exact HB.out | apply below_alloc | apply pw_below_drewN | apply below_drew1) | exact HB.out)))
                    (case aF => exact (fun _ _ => trivial))
                    (case aO => exact (by (with_reducible repeat (first | apply Kd.R_alloc | apply Kd.R_drewN | apply Kd.R_drew)); exact HO216.out))
                    (case aS => exact (below_size (by repeat (first | (with_reducible first | exact HB.out | apply below_alloc | apply pw_below_drewN | apply below_drew1) | exact HB.out))))
                    (case aL => have := LMc8.out; omega)
                    intro v219 w15 ho hb hg hat
                    rw [← Ny218.out] at ho
                    have n0_ := Aside0.mk (Kd.S_after (ok := (fun _ => True)) (by (with_reducible repeat (first | apply Kd.S_alloc | apply Kd.S_drewN | apply Kd.S_drew)); exact HO_5.out) hg hat)
                    have n1_ := Aside0.mk (hb)
                    have n2_ := Aside0.mk (ho)
                    clear HO_5
                    clear HB
                    clear HO216
                    have HO_5 := n0_
                    have HB := n1_
                    have HO220 := n2_
                    clear n0_ n1_ n2_
                    clear ho hb hg hat
                    refine hK.out _ _ ⟨((HB.out.cell (World.block_lt_of_cell? w _ hw217_0)).trans hw217_0), ((HB.out.cell (World.block_lt_of_cell? w _ hw221_0)).trans hw221_0)⟩ (fun hHeld => ?_)
                    clear hK K
                    refine norm_ (a' := ?_) ?_ ?_
                    rotate_left
                    · show Act.put _ (some 19) _ = _
                      simp only [Act.put, List.setIfInBounds_toArray, List.set_cons_zero, List.set_cons_succ, i64_w, i32_w]
                      rfl
                    refine one_ (i := 11) (N := some 24) #[true, true, true, true, true, true, true, true, true, true, true, true, false, false, false] rfl rfl (one_of HT_.out (by kernel_rfl)) (by decide) (fun K hK => ?_)
                    refine Kd.R_append_rows_step (Kd.int .u8) (w0 := w) w.heap.size (by rfl) (.tmp 19) (.tmp 23) 22 5 (.int .u8 0) 1 rfl Tryd.underlying22 info5 rfl (by decide) (by omega) v219 y218 (rd_L1 l1 x10_1) _ _ _ (fun _ => True) (fun _ => False) rfl rfl ?aO ?aR (fun _ _ h => h) (fun _ h => h.elim) ?aF ?aB ?aS ?aL ?_
                    (case aR => repeat (first | exact (Kd.C_below HR221_0.out HB.out) | (with_reducible refine Kd.C_alloc ?_ _) | (with_reducible refine Kd.C_drewN ?_ _) | (with_reducible refine Kd.C_drew ?_)))
                    (case aB => exact (by repeat (first | (with_reducible first | exact HB.out | apply below_alloc | apply pw_below_drewN | apply below_drew1) | exact HB.out)))
                    (case aF => exact (fun _ _ => trivial))
                    (case aO => exact (by (with_reducible repeat (first | apply Kd.R_alloc | apply Kd.R_drewN | apply Kd.R_drew)); exact HO220.out))
                    (case aS => exact (below_size (by repeat (first | (with_reducible first | exact HB.out | apply below_alloc | apply pw_below_drewN | apply below_drew1) | exact HB.out))))
                    (case aL => have := LMc10.out; omega)
                    intro v223 w16 ho hb hg hat
                    rw [← Ny222.out] at ho
                    have n0_ := Aside0.mk (Kd.S_after (ok := (fun _ => True)) (by (with_reducible repeat (first | apply Kd.S_alloc | apply Kd.S_drewN | apply Kd.S_drew)); exact HO_5.out) hg hat)
                    have n1_ := Aside0.mk (hb)
                    have n2_ := Aside0.mk (ho)
                    clear HO_5
                    clear HB
                    clear HO220
                    have HO_5 := n0_
                    have HB := n1_
                    have HO224 := n2_
                    clear n0_ n1_ n2_
                    clear ho hb hg hat
                    obtain ⟨Ao18, co18, eo18⟩ := Kd.R_slice HO224.out
                    (first | subst eo18 | (injection eo18 with f1_ f2_ f3_; have f4_ := f1_.symm; have f5_ := f3_.symm; clear f1_ f2_ f3_; subst f4_; subst f5_))
                    refine hK.out _ _ ⟨((HB.out.cell (World.block_lt_of_cell? w _ hw217_0)).trans hw217_0), ((HB.out.cell (World.block_lt_of_cell? w _ hw221_0)).trans hw221_0)⟩ (fun hHeld => ?_)
                    clear hK K
                    refine norm_ (a' := ?_) ?_ ?_
                    rotate_left
                    · show Act.put _ (some 24) _ = _
                      simp only [Act.put, List.setIfInBounds_toArray, List.set_cons_zero, List.set_cons_succ, i64_w, i32_w]
                      rfl
                    refine one_ (i := 12) (N := some 25) #[true, true, true, true, true, true, true, true, true, true, true, true, true, false, false] rfl rfl (one_of HT_.out (by kernel_rfl)) (by decide) (fun K hK => ?_)
                    refine value_ (w1 := ?_) (v := ?_) (by rfl) rfl ?_ ?_
                    rotate_left 2
                    · go_simp
                      constructor
                      · rfl
                      · rfl
                    refine hK.out _ _ ⟨(World.cell?_alloc_lt _ _ _ (World.block_lt_of_cell? _ _ (((HB.out.cell (World.block_lt_of_cell? w _ hw217_0)).trans hw217_0)))).trans (((HB.out.cell (World.block_lt_of_cell? w _ hw217_0)).trans hw217_0)), (World.cell?_alloc_lt _ _ _ (World.block_lt_of_cell? _ _ (((HB.out.cell (World.block_lt_of_cell? w _ hw221_0)).trans hw221_0)))).trans (((HB.out.cell (World.block_lt_of_cell? w _ hw221_0)).trans hw221_0))⟩ (fun hHeld => ?_)
                    clear hK K
                    refine norm_ (a' := ?_) ?_ ?_
                    rotate_left
                    · show Act.put _ (some 25) _ = _
                      simp only [Act.put, List.setIfInBounds_toArray, List.set_cons_zero, List.set_cons_succ, i64_w, i32_w]
                      rfl
                    refine one_ (i := 13) (N := some 26) #[true, true, true, true, true, true, true, true, true, true, true, true, true, true, false] rfl rfl (one_of HT_.out (by kernel_rfl)) (by decide) (fun K hK => ?_)
                    refine Kd.S_append_step (Kd.slice 5 (Kd.int .u8)) (w0 := w) w.heap.size (by rfl) (.tmp 13) (.tmp 25) 30 22 (.slice none 0 0) 24 rfl Tryd.underlying30 info22 rfl (by decide) (by omega) u5 x5_1 y222 [.slice Ao18 y222.length co18] (fun _ => True) (fun k_ => some k_ = (.slice Ao18 y222.length co18 : Value).ownBlock) rfl rfl ?aP (fun k_ hk_ => ((Kd.R_mono (ok' := fun k_ => ((fun _ => True)) k_ ∧ some k_ ≠ (u5 : Value).ownBlock) (Kd.R_apart' (HO224.out) (Kd.S_typed HO_5.out) (by decide)) (fun k_ hk => ⟨trivial, hk.2⟩))).1 k_ hk_.symm) ?aF ?aO ?aB ?aS ?aL ?_
                    (case aP => exact Kd.M_row (Kd.R_mono (Kd.R_tight rfl (Kd.R_mono (ok' := fun k_ => ((fun _ => True)) k_ ∧ some k_ ≠ (u5 : Value).ownBlock) (Kd.R_apart' (HO224.out) (Kd.S_typed HO_5.out) (by decide)) (fun k_ hk => ⟨trivial, hk.2⟩))) (fun _ h_ => h_)))
                    (case aB => exact (by repeat (first | (with_reducible first | exact HB.out | apply below_alloc | apply pw_below_drewN | apply below_drew1) | exact HB.out)))
                    (case aF => exact (fun _ _ => trivial))
                    (case aO => exact (by (with_reducible repeat (first | apply Kd.S_alloc | apply Kd.S_drewN | apply Kd.S_drew)); exact Kd.S_mono HO_5.out (fun k_ hk => ⟨trivial, fun e_ => hk.2 e_⟩)))
                    (case aS => exact (below_size (by repeat (first | (with_reducible first | exact HB.out | apply below_alloc | apply pw_below_drewN | apply below_drew1) | exact HB.out))))
                    (case aL => have := LMc11.out; omega)
                    intro v226 w17 ho hb hg hat
                    rw [← Ny225.out] at ho
                    have n0_ := Aside0.mk (hb)
                    have n1_ := Aside0.mk (ho)
                    clear HB
                    clear HO_5
                    clear HO224
                    have HB := n0_
                    have HO227 := n1_
                    clear n0_ n1_
                    clear ho hb hg hat
                    refine hK.out _ _ ⟨((HB.out.cell (World.block_lt_of_cell? w _ hw217_0)).trans hw217_0), ((HB.out.cell (World.block_lt_of_cell? w _ hw221_0)).trans hw221_0)⟩ (fun hHeld => ?_)
                    clear hK K
                    refine norm_ (a' := ?_) ?_ ?_
                    rotate_left
                    · show Act.put _ (some 26) _ = _
                      simp only [Act.put, List.setIfInBounds_toArray, List.set_cons_zero, List.set_cons_succ, i64_w, i32_w]
                      rfl
                    refine pure_ (i := 14) (N := some 5) (v := ?_) (a' := ?_) #[true, true, true, true, true, true, true, true, true, true, true, true, true, true, true] rfl rfl (any_of HT_.out (by kernel_rfl)) (fun _ _ _ h => h) (Or.inl ⟨by rfl, ?_⟩) ?_ ?_
                    rotate_left
                    · intro w'
                      go_simp
                      with_reducible rfl
                    rotate_left
                    · simp only [Act.put, List.setIfInBounds_toArray, List.set_cons_zero, List.set_cons_succ, i64_w, i32_w]
                      rfl
                    refine done_ (done_of HT_.out (by kernel_rfl)) ?_
                    try go_wp2
                    go_roundg k1
                    case measure => have := HK1.out; omega
                    case rel => exact ⟨(y225), (wrap64 (x10_1 + 1)), (by first | rfl | (simp; done) | (simp [*]; done)), H', ⟨by have := HK1.out; omega⟩, ⟨by (with_reducible repeat (first | apply Kd.S_alloc | apply Kd.S_drewN | apply Kd.S_drew)); exact HO227.out⟩, ⟨by repeat (first | (with_reducible first | exact HB.out | apply below_alloc | apply pw_below_drewN | apply below_drew1) | exact HB.out)⟩⟩
                  · rw [if_neg c11] at H
                    exact absurd H (by simp)
                · rw [if_neg c10] at H
                  exact absurd H (by simp)
              · rw [if_neg c9] at H
                exact absurd H (by simp)
            · rw [if_neg c8] at H
              exact absurd H (by simp)
          · rw [if_neg c7] at H
            exact absurd H (by simp)
        · rw [if_neg c6] at H
          exact absurd H (by simp)
      · rw [if_neg c5] at H
        have c5b0 : decide (x10_1 < (l0.length : Int)) = false := decide_eq_false c5
        clear c5
        obtain rfl := Option.some.inj H
        go_wp2
        go_ret
        exact ⟨_, by first | rfl | (simp [errW_none, errW_some] <;> rfl) | (simp [*, errW_none, errW_some] <;> rfl), by (with_reducible repeat (first | apply Kd.S_alloc | apply Kd.S_drewN | apply Kd.S_drew)); exact HO_5.out, by repeat (first | (with_reducible first | exact HB.out | apply below_alloc | apply pw_below_drewN | apply below_drew1) | exact HB.out)⟩

/-! ### spec_Block: function 21 -/
def spec_Block.l0 : Nat → Int → Int → List (List Int) → List (List Int) → Int → Int → Option ((List (List Int)))
  | 0, _, _, _, _, _, _ => none
  | k + 1, x2, x4, x11, x18, x19, x20 => if x20 < x19 then (if 0 ≤ x20 then (if x20 < (x18.length : Int) then ((some (([] : List Int) : List Int)).bind fun y236 => (if 0 ≤ x2 then (if x2 ≤ x4 then (if x4 ≤ ((rd_L1 x18 x20).length : Int) then (if y236.length + (((rd_L1 x18 x20).take (x4 : Int).toNat).drop (x2 : Int).toNat).length < 140737488355328 then (if x11.length < 5864062014805 then (spec_Block.l0 k x2 x4 (x11 ++ [(y236 ++ (((rd_L1 x18 x20).take (x4 : Int).toNat).drop (x2 : Int).toNat))]) x18 x19 (wrap64 (x20 + 1))) else (none)) else (none)) else (none)) else (none)) else (none))) else (none)) else (none)) else (some x11)
def spec_Block.f (k : Nat) (l0 : List (List Int)) (a1 : Int) (a2 : Int) (a3 : Int) (a4 : Int) : Option ((List (List Int))) := if 0 ≤ a1 then (if a1 ≤ a3 then (if a3 ≤ (l0.length : Int) then ((some ((l0.take (a3 : Int).toNat).drop (a1 : Int).toNat : List (List Int))).bind fun y231 => (spec_Block.l0 k a2 a4 (([] : List (List Int))) y231 (y231.length : Int) 0)) else (none)) else (none)) else (none)
theorem spec_Block.mono_l : ∀ k, (∀ y0 y1 y2 y3 y4 y5, LeO (spec_Block.l0 k y0 y1 y2 y3 y4 y5) (spec_Block.l0 (k + 1) y0 y1 y2 y3 y4 y5))
  | 0 => fun _ _ _ _ _ _ r h => by simp [spec_Block.l0] at h
  | k + 1 => by
    have ih0 := spec_Block.mono_l k
    · intro y0 y1 y2 y3 y4 y5
      unfold spec_Block.l0
      repeat' first
      | (with_reducible exact ih0 _ _ _ _ _ _)
      | (with_reducible exact LeO.refl _)
      | (with_reducible exact LeO.none _)
      | (with_reducible refine LeO.ite ?_ ?_)
      | (with_reducible refine LeO.bind ?_ (fun _ => ?_))
      | exact ih0 _ _ _ _ _ _
      | exact LeO.none _
      | refine LeO.ite ?_ ?_
      | refine LeO.bind ?_ (fun _ => ?_)
theorem spec_Block.mono : ∀ a0 a1 a2 a3 a4 k, LeO (spec_Block.f k a0 a1 a2 a3 a4) (spec_Block.f (k + 1) a0 a1 a2 a3 a4) := by
  intro a0 a1 a2 a3 a4 k
  have ih0 := spec_Block.mono_l k
  unfold spec_Block.f
  repeat' first
      | (with_reducible exact ih0 _ _ _ _ _ _)
      | (with_reducible exact LeO.refl _)
      | (with_reducible exact LeO.none _)
      | (with_reducible refine LeO.ite ?_ ?_)
      | (with_reducible refine LeO.bind ?_ (fun _ => ?_))
      | exact ih0 _ _ _ _ _ _
      | exact LeO.none _
      | refine LeO.ite ?_ ?_
      | refine LeO.bind ?_ (fun _ => ?_)
set_option maxHeartbeats 8000000 in
set_option maxRecDepth 100000 in
theorem spec_Block.calls (k : Nat) (A0 : Option Addr) (c0 : Nat) (l0 : List (List Int)) (a1 : Int) (a2 : Int) (a3 : Int) (a4 : Int) (r : List (List Int)) (w : World) (hr0 : Kd.C (Kd.slice 5 (Kd.int .u8)) w A0 l0.length l0) (hc0 : l0.length ≤ c0) (h : spec_Block.f k l0 a1 a2 a3 a4 = some r) :
    Calls Tryd.prog 21 #[.slice A0 l0.length c0, .int .i64 a1, .int .i64 a2, .int .i64 a3, .int .i64 a4] w fun e w' => ∃ v0_ : Value, e = .returned (v0_) ∧ Kd.S (Kd.slice 5 (Kd.int .u8)) 22 w' w.heap.size (fun _ => True) v0_ r ∧ Below w.heap.size w w' := by
  have HR0 := Aside0.mk hr0
  have HC0 := Aside0.mk hc0
  clear hr0 hc0
  have HB := Aside0.mk (Below.refl w.heap.size w)
  have H : (if 0 ≤ a1 then (if a1 ≤ a3 then (if a3 ≤ (l0.length : Int) then ((some ((l0.take (a3 : Int).toNat).drop (a1 : Int).toNat : List (List Int))).bind fun y231 => (spec_Block.l0 k a2 a4 (([] : List (List Int))) y231 (y231.length : Int) 0)) else (none)) else (none)) else (none)) = some r := h
  clear h
  obtain ⟨y228, hy228⟩ : ∃ y_ : List (List Int), y_ = (([] : List (List Int))) := ⟨_, rfl⟩
  replace H : (if 0 ≤ a1 then (if a1 ≤ a3 then (if a3 ≤ (l0.length : Int) then ((some ((l0.take (a3 : Int).toNat).drop (a1 : Int).toNat : List (List Int))).bind fun y231 => (spec_Block.l0 k a2 a4 y228 y231 (y231.length : Int) 0)) else (none)) else (none)) else (none)) = some r := by first | (rw [hy228]; with_reducible exact H) | (have H2_ := (Option.bind_some _ _).symm.trans H; rw [hy228]; with_reducible exact H2_) | (have H2_ := (Option.bind_some _ _).symm.trans H; with_reducible exact H2_) | with_reducible exact H | (rw [hy228]; exact H) | exact H
  have Ny228 := Aside0.mk hy228
  clear hy228
  by_cases c6 : 0 ≤ a1
  · rw [if_pos c6] at H
    have c6b0 := eq_true c6
    have c6b1 : decide (0 ≤ a1) = true := decide_eq_true c6
    clear c6
    by_cases c7 : a1 ≤ a3
    · rw [if_pos c7] at H
      have c7b0 := eq_true c7
      have c7b1 : decide (a1 ≤ a3) = true := decide_eq_true c7
      clear c7
      by_cases c8 : a3 ≤ (l0.length : Int)
      · rw [if_pos c8] at H
        have c8b0 := eq_true c8
        have c8b1 : decide (a3 ≤ (l0.length : Int)) = true := decide_eq_true c8
        clear c8
        obtain ⟨y231, hy231⟩ : ∃ y_ : List (List Int), y_ = ((l0.take (a3 : Int).toNat).drop (a1 : Int).toNat) := ⟨_, rfl⟩
        replace H : (spec_Block.l0 k a2 a4 y228 y231 (y231.length : Int) 0) = some r := by first | (rw [hy231]; with_reducible exact H) | (have H2_ := (Option.bind_some _ _).symm.trans H; rw [hy231]; with_reducible exact H2_) | (have H2_ := (Option.bind_some _ _).symm.trans H; with_reducible exact H2_) | with_reducible exact H | (rw [hy231]; exact H) | exact H
        have Ny231 := Aside0.mk hy231
        clear hy231
        have H' := Aside0.mk H
        clear H
        go_enter Tryd.func21, Tryd.ntmps21
        go_wp2_with (first | ((with_reducible refine gate_dst (N := 14) rfl ?_); refine Kd.S_lit (Kd.slice 5 (Kd.int .u8)) _ 22 ?hg (N := 14) ?hd (xs := ([] : List (List Int))) (inner := []) (ok := fun _ => True) (okp := fun _ => True) ?hr ?hp (fun _ hk => hk) trivial (Below.refl _ _) (Nat.le_refl _) (by simp) ?_; (case hd => rfl); (case hg => rfl); (case hr => first | (go_simp; done) | (go_simp; rfl)); (case hp => exact (Reps.none _ _)); intro v229 w9 ho10 hb hg_ hnew_; clear hg_ hnew_; (first | rw [← Ny228.out] at ho10 | (simp only [Int.reduceToNat] at ho10; rw [← Ny228.out] at ho10)); have n0_ := Aside0.mk (Kd.S_lower ho10 (below_size (by repeat (first | (with_reducible first | exact HB.out | apply below_alloc | apply pw_below_drewN | apply below_drew1) | exact HB.out)))); have n1_ := Aside0.mk (below_step (by repeat (first | (with_reducible first | exact HB.out | apply below_alloc | apply pw_below_drewN | apply below_drew1) | exact HB.out)) hb); clear HB; have HO230 := n0_; have HB := n1_; clear n0_ n1_; clear hb ho10; have q11 : (a3 : Int) ≤ ((l0.length : Int) : Int) := of_decide_eq_true (by first | (with_reducible assumption) | assumption); obtain ⟨i011, hi011, _, hsz11, _⟩ := info_parts info22; have hroom11 : l0.length ≤ c0 := HC0.out; have hC11 : Kd.C (Kd.slice 5 (Kd.int .u8)) _ A0 l0.length l0 := HR0.out; have ql11 : (a1 : Int) ≤ (a3 : Int) := of_decide_eq_true (by first | (with_reducible assumption) | assumption); have q011 : (0 : Int) ≤ (a1 : Int) := of_decide_eq_true (by first | (with_reducible assumption) | assumption); have hcut11 := cut_mid (P := Tryd.prog) 30 22 .i64 .i64 Tryd.underlying30 hi011 1 hsz11 A0 l0.length c0 a1 a3 q011 ql11 q11 hroom11; have hr11 := Kd.C_mid (lo := (a1 : Int).toNat) (hi := (a3 : Int).toNat) (c := c0) hC11 (by omega) (by omega) hroom11; obtain ⟨A11, hA11⟩ : ∃ A1q_, A1q_ = (if c0 = (a1 : Int).toNat then A0 else (A0 : Option Addr).map (·.add ((a1 : Int).toNat * 1))) := ⟨_, rfl⟩; obtain ⟨c11, hc11⟩ : ∃ c1q_, c1q_ = c0 - (a1 : Int).toNat := ⟨_, rfl⟩; have hy11 : y231.length = (a3 : Int).toNat - (a1 : Int).toNat := (by rw [Ny231.out, List.length_drop, List.length_take] <;> omega); rw [show ((l0).take (a3 : Int).toNat).drop (a1 : Int).toNat = y231 from Ny231.out.symm] at hr11; replace hr11 : Kd.C (Kd.slice 5 (Kd.int .u8)) _ A11 y231.length y231 := (by rw [hA11]; exact hr11); rw [← hy11, ← hA11, ← hc11] at hcut11; have HR234 := Aside0.mk hr11; have HC234 := Aside0.mk (show y231.length ≤ c11 from by rw [hy11, hc11]; exact Nat.sub_le_sub_right (Nat.le_trans (by omega) hroom11) _); clear hr11 hC11 hroom11 hi011 hsz11 hc11; have KY11 := Aside0.mk hy11; have KA11 := Aside0.mk hA11; clear hy11 hA11; replace q11 := eq_true q11))
        try simp only [Act.put, List.setIfInBounds_toArray, List.set_cons_zero, List.set_cons_succ]
        go_loopg [11, 20] k (fun kq v11 v20 w' => ∃ (x11_1 : List (List Int)) (x20_1 : Int), v20 = .int .i64 x20_1 ∧ Aside0 (spec_Block.l0 kq a2 a4 x11_1 y231 (y231.length : Int) x20_1 = some r) ∧ Aside0 (kq ≤ k) ∧ Aside0 (Kd.S (Kd.slice 5 (Kd.int .u8)) 22 w' w.heap.size (fun _ => True) v11 x11_1) ∧ Aside0 (Below w.heap.size w w'))
        case atStart => exact ⟨(y228), (0), (by first | rfl | (simp; done) | (simp [*]; done)), H', ⟨Nat.le_refl _⟩, ⟨by (with_reducible repeat (first | apply Kd.S_alloc | apply Kd.S_drewN | apply Kd.S_drew)); exact HO230.out⟩, ⟨by repeat (first | (with_reducible first | exact HB.out | apply below_alloc | apply pw_below_drewN | apply below_drew1) | exact HB.out)⟩⟩
        case round =>
          clear H'
          try clear c1
          try clear q1
          try clear c2
          try clear p2
          try clear c6
          try clear c6b0
          try clear c6b1
          try clear c7
          try clear c7b0
          try clear c7b1
          try clear c8
          try clear c8b0
          try clear c8b1
          try clear c11
          try clear q11
          try clear q011
          try clear q11
          obtain ⟨x11_1, x20_1, rfl, HA, HK1, HO_11, HB⟩ := hrel
          cases gk with
          | zero => exact absurd HA.out (by simp [spec_Block.l0])
          | succ k1 =>
            have H := HA.out
            clear HA
            simp only [spec_Block.l0] at H
            by_cases c12 : x20_1 < (y231.length : Int)
            · rw [if_pos c12] at H
              have c12b0 : decide (x20_1 < (y231.length : Int)) = true := decide_eq_true c12
              clear c12
              by_cases c13 : 0 ≤ x20_1
              · rw [if_pos c13] at H
                have c13b0 : decide (0 ≤ x20_1) = true := decide_eq_true c13
                clear c13
                by_cases c14 : x20_1 < (y231.length : Int)
                · rw [if_pos c14] at H
                  have c14b0 : decide (x20_1 < (y231.length : Int)) = true := decide_eq_true c14
                  clear c14
                  obtain ⟨y236, hy236⟩ : ∃ y_ : List Int, y_ = (([] : List Int)) := ⟨_, rfl⟩
                  replace H : (if 0 ≤ a2 then (if a2 ≤ a4 then (if a4 ≤ ((rd_L1 y231 x20_1).length : Int) then (if y236.length + (((rd_L1 y231 x20_1).take (a4 : Int).toNat).drop (a2 : Int).toNat).length < 140737488355328 then (if x11_1.length < 5864062014805 then (spec_Block.l0 k1 a2 a4 (x11_1 ++ [(y236 ++ (((rd_L1 y231 x20_1).take (a4 : Int).toNat).drop (a2 : Int).toNat))]) y231 (y231.length : Int) (wrap64 (x20_1 + 1))) else (none)) else (none)) else (none)) else (none)) else (none)) = some r := by first | (rw [hy236]; with_reducible exact H) | (have H2_ := (Option.bind_some _ _).symm.trans H; rw [hy236]; with_reducible exact H2_) | (have H2_ := (Option.bind_some _ _).symm.trans H; with_reducible exact H2_) | with_reducible exact H | (rw [hy236]; exact H) | exact H
                  have Ny236 := Aside0.mk hy236
                  clear hy236
                  by_cases c15 : 0 ≤ a2
                  · rw [if_pos c15] at H
                    have c15b0 := eq_true c15
                    have c15b1 : decide (0 ≤ a2) = true := decide_eq_true c15
                    clear c15
                    by_cases c16 : a2 ≤ a4
                    · rw [if_pos c16] at H
                      have c16b0 := eq_true c16
                      have c16b1 : decide (a2 ≤ a4) = true := decide_eq_true c16
                      clear c16
                      by_cases c17 : a4 ≤ ((rd_L1 y231 x20_1).length : Int)
                      · rw [if_pos c17] at H
                        have c17b0 := eq_true c17
                        have c17b1 : decide (a4 ≤ ((rd_L1 y231 x20_1).length : Int)) = true := decide_eq_true c17
                        clear c17
                        by_cases c18 : y236.length + (((rd_L1 y231 x20_1).take (a4 : Int).toNat).drop (a2 : Int).toNat).length < 140737488355328
                        · rw [if_pos c18] at H
                          have LMc18 := Aside0.mk c18
                          clear c18
                          obtain ⟨y240, hy240⟩ : ∃ y_ : List Int, y_ = (y236 ++ (((rd_L1 y231 x20_1).take (a4 : Int).toNat).drop (a2 : Int).toNat)) := ⟨_, rfl⟩
                          replace H : (if x11_1.length < 5864062014805 then (spec_Block.l0 k1 a2 a4 (x11_1 ++ [y240]) y231 (y231.length : Int) (wrap64 (x20_1 + 1))) else (none)) = some r := by first | (rw [hy240]; with_reducible exact H) | (have H2_ := (Option.bind_some _ _).symm.trans H; rw [hy240]; with_reducible exact H2_) | (have H2_ := (Option.bind_some _ _).symm.trans H; with_reducible exact H2_) | with_reducible exact H | (rw [hy240]; exact H) | exact H
                          have Ny240 := Aside0.mk hy240
                          clear hy240
                          by_cases c19 : x11_1.length < 5864062014805
                          · rw [if_pos c19] at H
                            have LMc19 := Aside0.mk c19
                            clear c19
                            obtain ⟨y243, hy243⟩ : ∃ y_ : List (List Int), y_ = (x11_1 ++ [y240]) := ⟨_, rfl⟩
                            replace H : (spec_Block.l0 k1 a2 a4 y243 y231 (y231.length : Int) (wrap64 (x20_1 + 1))) = some r := by first | (rw [hy243]; with_reducible exact H) | (have H2_ := (Option.bind_some _ _).symm.trans H; rw [hy243]; with_reducible exact H2_) | (have H2_ := (Option.bind_some _ _).symm.trans H; with_reducible exact H2_) | with_reducible exact H | (rw [hy243]; exact H) | exact H
                            have Ny243 := Aside0.mk hy243
                            clear hy243
                            have H' := Aside0.mk H
                            clear H
                            have p235 : 0 ≤ (x20_1 : Int) := of_decide_eq_true (by first | (with_reducible assumption) | assumption)
                            have q235 : x20_1 < (y231.length : Int) := of_decide_eq_true (by first | (with_reducible assumption) | assumption)
                            obtain ⟨ad235, A235_0, c235_0, e235, hx235_0, hl235_0, hi235_0⟩ := at_L1 HR234.out x20_1 p235 q235
                            cases e235
                            (try replace hx235_0 := (HB.out.cell (World.block_lt_of_cell? w _ hx235_0)).trans hx235_0)
                            have HR235_0 := Aside0.mk hi235_0
                            have HC235_0 := Aside0.mk hl235_0
                            clear hi235_0 hl235_0
                            replace p235 := eq_true p235
                            replace q235 := eq_true q235
                            go_wp2_with (first | ((with_reducible refine gate_dst (N := 25) rfl ?_); refine Kd.R_lit (Kd.int .u8) _ 5 ?hg (N := 25) ?hd (xs := ([] : List Int)) (inner := []) (ok := fun _ => True) (okp := fun _ => True) ?hr ?hp (fun _ hk => hk) trivial (Below.refl _ _) (Nat.le_refl _) (by simp) ?_; (case hd => rfl); (case hg => rfl); (case hr => first | (go_simp; done) | (go_simp; rfl)); (case hp => exact (Reps.none _ _)); intro v237 w20 ho21 hb hg_ hnew_; clear hg_ hnew_; (first | rw [← Ny236.out] at ho21 | (simp only [Int.reduceToNat] at ho21; rw [← Ny236.out] at ho21)); have n0_ := Aside0.mk (Kd.S_elder' (by (with_reducible repeat (first | apply Kd.S_alloc | apply Kd.S_drewN | apply Kd.S_drew)); exact HO_11.out) (Kd.R_base ho21) hb); have n1_ := Aside0.mk (Kd.R_lower ho21 (below_size (by repeat (first | (with_reducible first | exact HB.out | apply below_alloc | apply pw_below_drewN | apply below_drew1) | exact HB.out)))); have n2_ := Aside0.mk (below_step (by repeat (first | (with_reducible first | exact HB.out | apply below_alloc | apply pw_below_drewN | apply below_drew1) | exact HB.out)) hb); clear HO_11; clear HB; have HO_11 := n0_; have HO238 := n1_; have HB := n2_; clear n0_ n1_ n2_; clear hb ho21; obtain ⟨i022, hi022, _, hsz22, _⟩ := info_parts info5; obtain ⟨A22, hcut22, hA22, hC22⟩ := print_mid_of (P := Tryd.prog) (Value.int .u8) 0 22 5 .i64 .i64 Tryd.underlying22 hi022 hsz22 A235_0 c235_0 (rd_L1 y231 x20_1) a2 a4 (of_decide_eq_true (by first | (with_reducible assumption) | assumption)) (by first | omega | exact of_decide_eq_true (by first | (with_reducible assumption) | assumption)) (of_decide_eq_true (by first | (with_reducible assumption) | assumption)) HC235_0.out; have HR239 := Aside0.mk (Kd.C_of_reads (h1 := fun _ => rfl) (hA22 _ (Kd.reads_of_C HR235_0.out))); have HC239 := Aside0.mk hC22; clear hA22 hC22 hi022 hsz22) | ((with_reducible refine gate_builtin (b := .append) (xs := #[.tmp 25, .tmp 29]) rfl ?_); at_builtin; refine Kd.R_append_rows (Kd.int .u8) (w0 := w) w.heap.size rfl (.tmp 25) (.tmp 29) 22 5 (.int .u8 0) 1 rfl Tryd.underlying22 info5 rfl (by decide) (by omega) v237 y236 (((rd_L1 y231 x20_1).take (a4 : Int).toNat).drop (a2 : Int).toNat) _ _ _ (fun _ => True) (fun _ => False) rfl rfl ?aO ?aR (fun _ _ h => h) (fun _ h => h.elim) ?aF ?aB ?aS ?aL ?_; (case aR => first | (rw [← show (((rd_L1 y231 x20_1).take (a4 : Int).toNat).drop (a2 : Int).toNat).length = (a4.toNat - a2.toNat) from (by rw [List.length_drop, List.length_take]; have h_ : (a4 : Int) ≤ ((rd_L1 y231 x20_1).length : Int) := of_decide_eq_true (by first | (with_reducible assumption) | assumption); omega)]; repeat (first | exact (Kd.C_below HR239.out HB.out) | (with_reducible refine Kd.C_alloc ?_ _) | (with_reducible refine Kd.C_drewN ?_ _) | (with_reducible refine Kd.C_drew ?_))) | (repeat (first | exact (Kd.C_below HR239.out HB.out) | (with_reducible refine Kd.C_alloc ?_ _) | (with_reducible refine Kd.C_drewN ?_ _) | (with_reducible refine Kd.C_drew ?_)))); (case aB => exact (by repeat (first | (with_reducible first | exact HB.out | apply below_alloc | apply pw_below_drewN | apply below_drew1) | exact HB.out))); (case aF => exact (fun _ _ => trivial)); (case aO => exact (by (with_reducible repeat (first | apply Kd.R_alloc | apply Kd.R_drewN | apply Kd.R_drew)); exact HO238.out)); (case aS => exact (below_size (by repeat (first | (with_reducible first | exact HB.out | apply below_alloc | apply pw_below_drewN | apply below_drew1) | exact HB.out)))); (case aL => have := LMc18.out; have hlx_ := (show (((rd_L1 y231 x20_1).take (a4 : Int).toNat).drop (a2 : Int).toNat).length = (a4.toNat - a2.toNat) from (by rw [List.length_drop, List.length_take]; have h_ : (a4 : Int) ≤ ((rd_L1 y231 x20_1).length : Int) := of_decide_eq_true (by first | (with_reducible assumption) | assumption); omega)); omega); intro v241 w23 ho hb hg hat; rw [← Ny240.out] at ho; have n0_ := Aside0.mk (Kd.S_after (ok := (fun _ => True)) (by (with_reducible repeat (first | apply Kd.S_alloc | apply Kd.S_drewN | apply Kd.S_drew)); exact HO_11.out) hg hat); have n1_ := Aside0.mk (hb); have n2_ := Aside0.mk (ho); clear HO_11; clear HB; clear HO238; have HO_11 := n0_; have HB := n1_; have HO242 := n2_; clear n0_ n1_ n2_; clear ho hb hg hat; obtain ⟨Ao25, co25, eo25⟩ := Kd.R_slice HO242.out; subst eo25) | ((with_reducible refine gate_builtin (b := .append) (xs := #[.tmp 24, .tmp 31]) rfl ?_); at_builtin; refine Kd.S_append (Kd.slice 5 (Kd.int .u8)) (w0 := w) w.heap.size rfl (.tmp 24) (.tmp 31) 30 22 (.slice none 0 0) 24 rfl Tryd.underlying30 info22 rfl (by decide) (by omega) u11 x11_1 y240 [.slice Ao25 y240.length co25] (fun _ => True) (fun k_ => some k_ = (.slice Ao25 y240.length co25 : Value).ownBlock) rfl rfl ?aP (fun k_ hk_ => ((Kd.R_mono (ok' := fun k_ => ((fun _ => True)) k_ ∧ some k_ ≠ (u11 : Value).ownBlock) (Kd.R_apart' (HO242.out) (Kd.S_typed HO_11.out) (by decide)) (fun k_ hk => ⟨trivial, hk.2⟩))).1 k_ hk_.symm) ?aF ?aO ?aB ?aS ?aL ?_; (case aP => exact Kd.M_row (Kd.R_mono (Kd.R_tight rfl (Kd.R_mono (ok' := fun k_ => ((fun _ => True)) k_ ∧ some k_ ≠ (u11 : Value).ownBlock) (Kd.R_apart' (HO242.out) (Kd.S_typed HO_11.out) (by decide)) (fun k_ hk => ⟨trivial, hk.2⟩))) (fun _ h_ => h_))); (case aB => exact (by repeat (first | (with_reducible first | exact HB.out | apply below_alloc | apply pw_below_drewN | apply below_drew1) | exact HB.out))); (case aF => exact (fun _ _ => trivial)); (case aO => exact (by (with_reducible repeat (first | apply Kd.S_alloc | apply Kd.S_drewN | apply Kd.S_drew)); exact Kd.S_mono HO_11.out (fun k_ hk => ⟨trivial, fun e_ => hk.2 e_⟩))); (case aS => exact (below_size (by repeat (first | (with_reducible first | exact HB.out | apply below_alloc | apply pw_below_drewN | apply below_drew1) | exact HB.out)))); (case aL => have := LMc19.out; omega); intro v244 w24 ho hb hg hat; rw [← Ny243.out] at ho; have n0_ := Aside0.mk (hb); have n1_ := Aside0.mk (ho); clear HB; clear HO_11; clear HO242; have HB := n0_; have HO245 := n1_; clear n0_ n1_; clear ho hb hg hat))
                            go_roundg k1
                            case measure => have := HK1.out; omega
                            case rel => exact ⟨(y243), (wrap64 (x20_1 + 1)), (by first | rfl | (simp; done) | (simp [*]; done)), H', ⟨by have := HK1.out; omega⟩, ⟨by (with_reducible repeat (first | apply Kd.S_alloc | apply Kd.S_drewN | apply Kd.S_drew)); exact HO245.out⟩, ⟨by repeat (first | (with_reducible first | exact HB.out | apply below_alloc | apply pw_below_drewN | apply below_drew1) | exact HB.out)⟩⟩
                          · rw [if_neg c19] at H
                            exact absurd H (by simp)
                        · rw [if_neg c18] at H
                          exact absurd H (by simp)
                      · rw [if_neg c17] at H
                        exact absurd H (by simp)
                    · rw [if_neg c16] at H
                      exact absurd H (by simp)
                  · rw [if_neg c15] at H
                    exact absurd H (by simp)
                · rw [if_neg c14] at H
                  exact absurd H (by simp)
              · rw [if_neg c13] at H
                exact absurd H (by simp)
            · rw [if_neg c12] at H
              have c12b0 : decide (x20_1 < (y231.length : Int)) = false := decide_eq_false c12
              clear c12
              obtain rfl := Option.some.inj H
              go_wp2
              go_ret
              exact ⟨_, by first | rfl | (simp [errW_none, errW_some] <;> rfl) | (simp [*, errW_none, errW_some] <;> rfl), by (with_reducible repeat (first | apply Kd.S_alloc | apply Kd.S_drewN | apply Kd.S_drew)); exact HO_11.out, by repeat (first | (with_reducible first | exact HB.out | apply below_alloc | apply pw_below_drewN | apply below_drew1) | exact HB.out)⟩
      · rw [if_neg c8] at H
        exact absurd H (by simp)
    · rw [if_neg c7] at H
      exact absurd H (by simp)
  · rw [if_neg c6] at H
    exact absurd H (by simp)

end Go.Proofs.YtpeikjnkbjabpaaDoor.X
