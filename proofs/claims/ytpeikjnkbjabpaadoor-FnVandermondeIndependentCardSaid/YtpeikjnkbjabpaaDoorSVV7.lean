import Derived.Test.YtpeikjnkbjabpaaDoorSVV0
namespace Go.Proofs.YtpeikjnkbjabpaaDoor.V
open Go.RowKit Go.Proofs.YtpeikjnkbjabpaaDoorW.PrintWords Go.Proofs.YtpeikjnkbjabpaaDoorW.PrintLast Go.Proofs.YtpeikjnkbjabpaaDoorW.PrintMore
attribute [local go_sem] max2_int min2_int max_two min_two max_three min_three max_four min_four   -- for this text's walks alone
set_option linter.unusedVariables false
set_option linter.unusedSimpArgs false
def laws_equalBytes.l0 : Nat → List Int → List Int → Int → Int → Option (Bool)
  | 0, _, _, _, _ => none
  | k + 1, x0, x1, x12, x13 => if x13 < x12 then (if 0 ≤ x13 then (if x13 < (x0.length : Int) then (if x13 < (x1.length : Int) then (if (rd x0 x13) = (rd x1 x13) then (laws_equalBytes.l0 k x0 x1 x12 (wrap64 (x13 + 1))) else (some false)) else (none)) else (none)) else (none)) else (some true)
def laws_equalBytes.f (k : Nat) (l0 : List Int) (l1 : List Int) : Option (Bool) := if (l0.length : Int) = (l1.length : Int) then (laws_equalBytes.l0 k l0 l1 (l0.length : Int) 0) else (some false)
theorem laws_equalBytes.mono_l : ∀ k, (∀ y0 y1 y2 y3, LeO (laws_equalBytes.l0 k y0 y1 y2 y3) (laws_equalBytes.l0 (k + 1) y0 y1 y2 y3))
  | 0 => fun _ _ _ _ r h => by simp [laws_equalBytes.l0] at h
  | k + 1 => by
    have ih0 := laws_equalBytes.mono_l k
    · intro y0 y1 y2 y3
      unfold laws_equalBytes.l0
      repeat' first
      | (with_reducible exact ih0 _ _ _ _)
      | (with_reducible exact LeO.refl _)
      | (with_reducible exact LeO.none _)
      | (with_reducible refine LeO.ite ?_ ?_)
      | (with_reducible refine LeO.bind ?_ (fun _ => ?_))
      | exact ih0 _ _ _ _
      | exact LeO.none _
      | refine LeO.ite ?_ ?_
      | refine LeO.bind ?_ (fun _ => ?_)
theorem laws_equalBytes.mono : ∀ a0 a1 k, LeO (laws_equalBytes.f k a0 a1) (laws_equalBytes.f (k + 1) a0 a1) := by
  intro a0 a1 k
  have ih0 := laws_equalBytes.mono_l k
  unfold laws_equalBytes.f
  repeat' first
      | (with_reducible exact ih0 _ _ _ _)
      | (with_reducible exact LeO.refl _)
      | (with_reducible exact LeO.none _)
      | (with_reducible refine LeO.ite ?_ ?_)
      | (with_reducible refine LeO.bind ?_ (fun _ => ?_))
      | exact ih0 _ _ _ _
      | exact LeO.none _
      | refine LeO.ite ?_ ?_
      | refine LeO.bind ?_ (fun _ => ?_)
set_option maxHeartbeats 8000000 in
set_option maxRecDepth 100000 in
theorem laws_equalBytes.calls (k : Nat) (A0 : Option Addr) (c0 : Nat) (l0 : List Int) (A1 : Option Addr) (c1 : Nat) (l1 : List Int) (r : Bool) (w : World) (hr0 : Kd.C (Kd.int .u8) w A0 l0.length l0) (hc0 : l0.length ≤ c0) (hr1 : Kd.C (Kd.int .u8) w A1 l1.length l1) (hc1 : l1.length ≤ c1) (h : laws_equalBytes.f k l0 l1 = some r) :
    Calls Tryd.prog 27 #[.slice A0 l0.length c0, .slice A1 l1.length c1] w fun e w' => e = .returned (.bool r) ∧ Drawn0 w w' := by
  have HR0 := Aside0.mk hr0
  have HC0 := Aside0.mk hc0
  clear hr0 hc0
  have HR1 := Aside0.mk hr1
  have HC1 := Aside0.mk hc1
  clear hr1 hc1
  have H : (if (l0.length : Int) = (l1.length : Int) then (laws_equalBytes.l0 k l0 l1 (l0.length : Int) 0) else (some false)) = some r := h
  clear h
  by_cases c3 : (l0.length : Int) = (l1.length : Int)
  · rw [if_pos c3] at H
    have c3b0 : ((l0.length : Int) == (l1.length : Int)) = true := beq_iff_eq.mpr c3
    have c3b1 : ((l0.length : Int) != (l1.length : Int)) = false := bne_eq_false_iff_eq.mpr c3
    have c3b2 : (l0.length == l1.length) = true := by first | simpa using c3 | (simp at c3 ⊢; omega)
    clear c3
    have H' := Aside0.mk H
    clear H
    go_enter Tryd.func27, Tryd.ntmps27
    go_wp2
    repeat (go_quiet (fail); try go_wp2)
    try simp only [Act.put, List.setIfInBounds_toArray, List.set_cons_zero, List.set_cons_succ]
    go_loopg [13] k (fun kq v13 w' => ∃ (x13_1 : Int), v13 = .int .i64 x13_1 ∧ Aside0 (laws_equalBytes.l0 kq l0 l1 (l0.length : Int) x13_1 = some r) ∧ Aside0 (kq ≤ k) ∧ Drawn0 w w')
    case atStart => exact ⟨(0), (by first | rfl | (simp; done) | (simp [*]; done)), H', ⟨Nat.le_refl _⟩, by repeat (first | exact Drawn0.refl _ | apply Drawn0.step)⟩
    case round =>
      clear H'
      try clear c1
      try clear c2
      try clear p2
      try clear c3
      try clear c3b0
      try clear c3b1
      try clear c3b2
      obtain ⟨x13_1, rfl, HA, HK1, ⟨m1, rfl⟩⟩ := hrel
      cases gk with
      | zero => exact absurd HA.out (by simp [laws_equalBytes.l0])
      | succ k1 =>
        have H := HA.out
        clear HA
        simp only [laws_equalBytes.l0] at H
        by_cases c4 : x13_1 < (l0.length : Int)
        · rw [if_pos c4] at H
          have c4b0 : decide (x13_1 < (l0.length : Int)) = true := decide_eq_true c4
          clear c4
          by_cases c5 : 0 ≤ x13_1
          · rw [if_pos c5] at H
            have c5b0 : decide (0 ≤ x13_1) = true := decide_eq_true c5
            clear c5
            by_cases c6 : x13_1 < (l0.length : Int)
            · rw [if_pos c6] at H
              have c6b0 : decide (x13_1 < (l0.length : Int)) = true := decide_eq_true c6
              clear c6
              by_cases c7 : x13_1 < (l1.length : Int)
              · rw [if_pos c7] at H
                have c7b0 : decide (x13_1 < (l1.length : Int)) = true := decide_eq_true c7
                clear c7
                by_cases c8 : (rd l0 x13_1) = (rd l1 x13_1)
                · rw [if_pos c8] at H
                  have c8b0 : ((rd l0 x13_1) == (rd l1 x13_1)) = true := beq_iff_eq.mpr c8
                  have c8b1 : ((rd l0 x13_1) != (rd l1 x13_1)) = false := bne_eq_false_iff_eq.mpr c8
                  clear c8
                  have H' := Aside0.mk H
                  clear H
                  have p186 : 0 ≤ (x13_1 : Int) := of_decide_eq_true (by first | (with_reducible assumption) | assumption)
                  have q186 : x13_1 < (l0.length : Int) := of_decide_eq_true (by first | (with_reducible assumption) | assumption)
                  obtain ⟨ad186, e186, hx186_0⟩ := Kd.at_int HR0.out x13_1 p186 q186
                  cases e186
                  replace p186 := eq_true p186
                  replace q186 := eq_true q186
                  have p187 : 0 ≤ (x13_1 : Int) := of_decide_eq_true (by first | (with_reducible assumption) | assumption)
                  have q187 : x13_1 < (l1.length : Int) := of_decide_eq_true (by first | (with_reducible assumption) | assumption)
                  obtain ⟨ad187, e187, hx187_0⟩ := Kd.at_int HR1.out x13_1 p187 q187
                  cases e187
                  replace p187 := eq_true p187
                  replace q187 := eq_true q187
                  go_wp2
                  repeat (go_quiet (fail); try go_wp2)
                  go_roundg k1
                  case measure => have := HK1.out; omega
                  case rel => exact ⟨(wrap64 (x13_1 + 1)), (by first | rfl | (simp; done) | (simp [*]; done)), H', ⟨by have := HK1.out; omega⟩, by repeat (first | exact Drawn0.refl _ | apply Drawn0.step)⟩
                · rw [if_neg c8] at H
                  have c8b0 : ((rd l0 x13_1) == (rd l1 x13_1)) = false := beq_eq_false_iff_ne.mpr c8
                  have c8b1 : ((rd l0 x13_1) != (rd l1 x13_1)) = true := bne_iff_ne.mpr c8
                  obtain rfl := Option.some.inj H
                  have p186 : 0 ≤ (x13_1 : Int) := of_decide_eq_true (by first | (with_reducible assumption) | assumption)
                  have q186 : x13_1 < (l0.length : Int) := of_decide_eq_true (by first | (with_reducible assumption) | assumption)
                  obtain ⟨ad186, e186, hx186_0⟩ := Kd.at_int HR0.out x13_1 p186 q186
                  cases e186
                  replace p186 := eq_true p186
                  replace q186 := eq_true q186
                  have p187 : 0 ≤ (x13_1 : Int) := of_decide_eq_true (by first | (with_reducible assumption) | assumption)
                  have q187 : x13_1 < (l1.length : Int) := of_decide_eq_true (by first | (with_reducible assumption) | assumption)
                  obtain ⟨ad187, e187, hx187_0⟩ := Kd.at_int HR1.out x13_1 p187 q187
                  cases e187
                  replace p187 := eq_true p187
                  replace q187 := eq_true q187
                  go_wp2
                  repeat (go_quiet (fail); try go_wp2)
                  go_ret
                  exact ⟨by first | rfl | (simp; done) | (simp [*]; done), by repeat (first | exact Drawn0.refl _ | apply Drawn0.step)⟩
              · rw [if_neg c7] at H
                exact absurd H (by simp)
            · rw [if_neg c6] at H
              exact absurd H (by simp)
          · rw [if_neg c5] at H
            exact absurd H (by simp)
        · rw [if_neg c4] at H
          have c4b0 : decide (x13_1 < (l0.length : Int)) = false := decide_eq_false c4
          clear c4
          obtain rfl := Option.some.inj H
          go_wp2
          repeat (go_quiet (fail); try go_wp2)
          go_ret
          exact ⟨by first | rfl | (simp; done) | (simp [*]; done), by repeat (first | exact Drawn0.refl _ | apply Drawn0.step)⟩
  · rw [if_neg c3] at H
    have c3b0 : ((l0.length : Int) == (l1.length : Int)) = false := beq_eq_false_iff_ne.mpr c3
    have c3b1 : ((l0.length : Int) != (l1.length : Int)) = true := bne_iff_ne.mpr c3
    have c3b2 : (l0.length == l1.length) = false := by first | simpa using c3 | (simp at c3 ⊢; omega)
    obtain rfl := Option.some.inj H
    go_enter Tryd.func27, Tryd.ntmps27
    go_wp2
    repeat (go_quiet (fail); try go_wp2)
    go_ret
    exact ⟨by first | rfl | (simp; done) | (simp [*]; done), by repeat (first | exact Drawn0.refl _ | apply Drawn0.step)⟩
def spec_Columns.f (l0 : List (List Int)) : Option (Int) := if (l0.length : Int) = 0 then (some 0) else (if 0 < (l0.length : Int) then (some ((rd_L1 l0 0).length : Int)) else (none))
set_option maxHeartbeats 8000000 in
set_option maxRecDepth 100000 in
theorem spec_Columns.calls (A0 : Option Addr) (c0 : Nat) (l0 : List (List Int)) (r : Int) (w : World) (hr0 : Kd.C (Kd.slice 5 (Kd.int .u8)) w A0 l0.length l0) (hc0 : l0.length ≤ c0) (h : spec_Columns.f l0 = some r) :
    Calls Tryd.prog 18 #[.slice A0 l0.length c0] w fun e w' => e = .returned (.int .i64 r) ∧ Drawn0 w w' := by
  have HR0 := Aside0.mk hr0
  have HC0 := Aside0.mk hc0
  clear hr0 hc0
  have H : (if (l0.length : Int) = 0 then (some 0) else (if 0 < (l0.length : Int) then (some ((rd_L1 l0 0).length : Int)) else (none))) = some r := h
  clear h
  by_cases c2 : (l0.length : Int) = 0
  · rw [if_pos c2] at H
    have c2b0 : ((l0.length : Int) == 0) = true := beq_iff_eq.mpr c2
    have c2b1 : ((l0.length : Int) != 0) = false := bne_eq_false_iff_eq.mpr c2
    clear c2
    obtain rfl := Option.some.inj H
    go_enter Tryd.func18, Tryd.ntmps18
    go_wp2
    go_ret
    exact ⟨by first | rfl | (simp; done) | (simp [*]; done), by repeat (first | exact Drawn0.refl _ | apply Drawn0.step)⟩
  · rw [if_neg c2] at H
    have c2b0 : ((l0.length : Int) == 0) = false := beq_eq_false_iff_ne.mpr c2
    have c2b1 : ((l0.length : Int) != 0) = true := bne_iff_ne.mpr c2
    have c2b2 : ¬ (l0 = []) := fun h_ => c2 (by rw [h_]; rfl)
    by_cases c3 : 0 < (l0.length : Int)
    · rw [if_pos c3] at H
      have c3b0 : decide (0 < (l0.length : Int)) = true := decide_eq_true c3
      have c3b1 : decide (0 < l0.length) = true := decide_eq_true (by omega)
      clear c3
      obtain rfl := Option.some.inj H
      have p188 : 0 ≤ (0 : Int) := (by omega)
      have q188 : 0 < (l0.length : Int) := of_decide_eq_true (by first | (with_reducible assumption) | assumption)
      obtain ⟨ad188, A188_0, c188_0, e188, hx188_0, hl188_0, hi188_0⟩ := at_L1 HR0.out 0 p188 q188
      cases e188
      have qi188 : (0 < l0.length) = True := eq_true (by omega)
      (try rw [show ((0 : Int)).toNat = 0 from rfl] at hx188_0)
      (try rw [Addr.add_zero'] at hx188_0)
      have HR188_0 := Aside0.mk hi188_0
      have HC188_0 := Aside0.mk hl188_0
      clear hi188_0 hl188_0
      replace p188 := eq_true p188
      replace q188 := eq_true q188
      go_enter Tryd.func18, Tryd.ntmps18
      go_wp2
      go_ret
      exact ⟨by first | rfl | (simp; done) | (simp [*]; done), by repeat (first | exact Drawn0.refl _ | apply Drawn0.step)⟩
    · rw [if_neg c3] at H
      exact absurd H (by simp)
def spec_Zeros.l0 : Nat → Int → List (List Int) → Int → Int → Option ((List (List Int)))
  | 0, _, _, _, _ => none
  | k + 1, x1, x5, x10, x11 => if x11 < x10 then (if 0 ≤ x1 then (if (x1 : Int).toNat ≤ 281474976710656 then (if 0 ≤ x11 then (if x11 < (x5.length : Int) then (spec_Zeros.l0 k x1 (x5.set (x11 : Int).toNat (List.replicate (x1 : Int).toNat 0)) x10 (wrap64 (x11 + 1))) else (none)) else (none)) else (none)) else (none)) else (some x5)
def spec_Zeros.f (k : Nat) (a0 : Int) (a1 : Int) : Option ((List (List Int))) := if 0 ≤ a0 then (if (a0 : Int).toNat ≤ 11728124029610 then ((some (List.replicate (a0 : Int).toNat [] : List (List Int))).bind fun y189 => (spec_Zeros.l0 k a1 y189 (y189.length : Int) 0)) else (none)) else (none)
theorem spec_Zeros.mono_l : ∀ k, (∀ y0 y1 y2 y3, LeO (spec_Zeros.l0 k y0 y1 y2 y3) (spec_Zeros.l0 (k + 1) y0 y1 y2 y3))
  | 0 => fun _ _ _ _ r h => by simp [spec_Zeros.l0] at h
  | k + 1 => by
    have ih0 := spec_Zeros.mono_l k
    · intro y0 y1 y2 y3
      unfold spec_Zeros.l0
      repeat' first
      | (with_reducible exact ih0 _ _ _ _)
      | (with_reducible exact LeO.refl _)
      | (with_reducible exact LeO.none _)
      | (with_reducible refine LeO.ite ?_ ?_)
      | (with_reducible refine LeO.bind ?_ (fun _ => ?_))
      | exact ih0 _ _ _ _
      | exact LeO.none _
      | refine LeO.ite ?_ ?_
      | refine LeO.bind ?_ (fun _ => ?_)
theorem spec_Zeros.mono : ∀ a0 a1 k, LeO (spec_Zeros.f k a0 a1) (spec_Zeros.f (k + 1) a0 a1) := by
  intro a0 a1 k
  have ih0 := spec_Zeros.mono_l k
  unfold spec_Zeros.f
  repeat' first
      | (with_reducible exact ih0 _ _ _ _)
      | (with_reducible exact LeO.refl _)
      | (with_reducible exact LeO.none _)
      | (with_reducible refine LeO.ite ?_ ?_)
      | (with_reducible refine LeO.bind ?_ (fun _ => ?_))
      | exact ih0 _ _ _ _
      | exact LeO.none _
      | refine LeO.ite ?_ ?_
      | refine LeO.bind ?_ (fun _ => ?_)
set_option maxHeartbeats 8000000 in
set_option maxRecDepth 100000 in
theorem spec_Zeros.calls (k : Nat) (a0 : Int) (a1 : Int) (r : List (List Int)) (w : World) (h : spec_Zeros.f k a0 a1 = some r) :
    Calls Tryd.prog 40 #[.int .i64 a0, .int .i64 a1] w fun e w' => ∃ v0_ : Value, e = .returned (v0_) ∧ Kd.S (Kd.slice 5 (Kd.int .u8)) 22 w' w.heap.size (fun _ => True) v0_ r ∧ Below w.heap.size w w' := by
  have HB := Aside0.mk (Below.refl w.heap.size w)
  have H : (if 0 ≤ a0 then (if (a0 : Int).toNat ≤ 11728124029610 then ((some (List.replicate (a0 : Int).toNat [] : List (List Int))).bind fun y189 => (spec_Zeros.l0 k a1 y189 (y189.length : Int) 0)) else (none)) else (none)) = some r := h
  clear h
  by_cases c3 : 0 ≤ a0
  · rw [if_pos c3] at H
    have c3b0 := eq_true c3
    have c3b1 : decide (0 ≤ a0) = true := decide_eq_true c3
    clear c3
    by_cases c4 : (a0 : Int).toNat ≤ 11728124029610
    · rw [if_pos c4] at H
      have c4b0 := eq_true c4
      have c4b1 : decide ((a0 : Int).toNat ≤ 11728124029610) = true := decide_eq_true c4
      clear c4
      obtain ⟨y189, hy189⟩ : ∃ y_ : List (List Int), y_ = (List.replicate (a0 : Int).toNat []) := ⟨_, rfl⟩
      replace H : (spec_Zeros.l0 k a1 y189 (y189.length : Int) 0) = some r := by first | (rw [hy189]; with_reducible exact H) | (have H2_ := (Option.bind_some _ _).symm.trans H; rw [hy189]; with_reducible exact H2_) | (have H2_ := (Option.bind_some _ _).symm.trans H; with_reducible exact H2_) | with_reducible exact H | (rw [hy189]; exact H) | exact H
      have Ny189 := Aside0.mk hy189
      clear hy189
      have H' := Aside0.mk H
      clear H
      go_enter Tryd.func40, Tryd.ntmps40
      go_wp2_with (first | ((with_reducible refine gate_dst (N := 8) rfl ?_); refine Kd.S_make (Kd.slice 5 (Kd.int .u8)) _ 22 rfl (N := 8) rfl 30 _ _ rfl a0 rfl rfl Tryd.underlying30 (.slice none 0 0) 24 info22 rfl (by decide) (by omega) [] (ok := fun _ => True) (okp := fun _ => True) ⟨_, rfl, Kd.R_nil _ _ _ _ _⟩ (fun _ hk => hk) trivial (of_decide_eq_true (by first | (with_reducible assumption) | assumption)) (Nat.le_trans (Nat.mul_le_mul_right _ (of_decide_eq_true (by first | (with_reducible assumption) | assumption) : a0.toNat ≤ 11728124029610)) (by omega)) (Below.refl _ _) (Nat.le_refl _) ?_; intro v190 w5 ho6 hb hg_ hnew_; clear hg_ hnew_; (first | rw [← Ny189.out] at ho6 | (simp only [Int.reduceToNat] at ho6; rw [← Ny189.out] at ho6)); have n0_ := Aside0.mk (Kd.S_lower ho6 (below_size (by repeat (first | (with_reducible first | exact HB.out | apply below_alloc | apply pw_below_drewN | apply below_drew1) | exact HB.out)))); have n1_ := Aside0.mk (below_step (by repeat (first | (with_reducible first | exact HB.out | apply below_alloc | apply pw_below_drewN | apply below_drew1) | exact HB.out)) hb); clear HB; have HO191 := n0_; have HB := n1_; clear n0_ n1_; clear hb ho6; obtain ⟨Ao7, co7, eo7⟩ := Kd.S_slice HO191.out; subst eo7))
      try simp only [Act.put, List.setIfInBounds_toArray, List.set_cons_zero, List.set_cons_succ]
      go_loopg [11] k (fun kq v11 w' => ∃ (x5_1 : List (List Int)) (x11_1 : Int), v11 = .int .i64 x11_1 ∧ Aside0 (spec_Zeros.l0 kq a1 x5_1 (y189.length : Int) x11_1 = some r) ∧ Aside0 (kq ≤ k) ∧ Aside0 (Kd.S (Kd.slice 5 (Kd.int .u8)) 22 w' w.heap.size (fun _ => True) (.slice Ao7 y189.length co7) x5_1) ∧ Aside0 (Below w.heap.size w w'))
      case atStart => exact ⟨(y189), (0), (by first | rfl | (simp; done) | (simp [*]; done)), H', ⟨Nat.le_refl _⟩, ⟨by (with_reducible repeat (first | apply Kd.S_alloc | apply Kd.S_drewN | apply Kd.S_drew)); exact HO191.out⟩, ⟨by repeat (first | (with_reducible first | exact HB.out | apply below_alloc | apply pw_below_drewN | apply below_drew1) | exact HB.out)⟩⟩
      case round =>
        clear H'
        try clear p2
        try clear c3
        try clear c3b0
        try clear c3b1
        try clear c4
        try clear c4b0
        try clear c4b1
        obtain ⟨x5_1, x11_1, rfl, HA, HK1, HO_5, HB⟩ := hrel
        have hl5_1 := (Kd.S_reads' HO_5.out).1
        rw [hl5_1] at HO_5
        (try simp only [hl5_1])
        cases gk with
        | zero => exact absurd HA.out (by simp [spec_Zeros.l0])
        | succ k1 =>
          have H := HA.out
          clear HA
          simp only [spec_Zeros.l0] at H
          by_cases c8 : x11_1 < (y189.length : Int)
          · rw [if_pos c8] at H
            have c8b0 : decide (x11_1 < (y189.length : Int)) = true := decide_eq_true c8
            clear c8
            by_cases c9 : 0 ≤ a1
            · rw [if_pos c9] at H
              have c9b0 := eq_true c9
              have c9b1 : decide (0 ≤ a1) = true := decide_eq_true c9
              clear c9
              by_cases c10 : (a1 : Int).toNat ≤ 281474976710656
              · rw [if_pos c10] at H
                have c10b0 := eq_true c10
                have c10b1 : decide ((a1 : Int).toNat ≤ 281474976710656) = true := decide_eq_true c10
                clear c10
                obtain ⟨y192, hy192⟩ : ∃ y_ : List Int, y_ = (List.replicate (a1 : Int).toNat 0) := ⟨_, rfl⟩
                replace H : (if 0 ≤ x11_1 then (if x11_1 < (x5_1.length : Int) then (spec_Zeros.l0 k1 a1 (x5_1.set (x11_1 : Int).toNat y192) (y189.length : Int) (wrap64 (x11_1 + 1))) else (none)) else (none)) = some r := by first | (rw [hy192]; with_reducible exact H) | (have H2_ := (Option.bind_some _ _).symm.trans H; rw [hy192]; with_reducible exact H2_) | (have H2_ := (Option.bind_some _ _).symm.trans H; with_reducible exact H2_) | with_reducible exact H | (rw [hy192]; exact H) | exact H
                have Ny192 := Aside0.mk hy192
                clear hy192
                by_cases c11 : 0 ≤ x11_1
                · rw [if_pos c11] at H
                  have c11b0 : decide (0 ≤ x11_1) = true := decide_eq_true c11
                  clear c11
                  by_cases c12 : x11_1 < (x5_1.length : Int)
                  · rw [if_pos c12] at H
                    have c12b0 : decide (x11_1 < (x5_1.length : Int)) = true := decide_eq_true c12
                    clear c12
                    obtain ⟨y195, hy195⟩ : ∃ y_ : List (List Int), y_ = (x5_1.set (x11_1 : Int).toNat y192) := ⟨_, rfl⟩
                    replace H : (spec_Zeros.l0 k1 a1 y195 (y189.length : Int) (wrap64 (x11_1 + 1))) = some r := by first | (rw [hy195]; with_reducible exact H) | (have H2_ := (Option.bind_some _ _).symm.trans H; rw [hy195]; with_reducible exact H2_) | (have H2_ := (Option.bind_some _ _).symm.trans H; with_reducible exact H2_) | with_reducible exact H | (rw [hy195]; exact H) | exact H
                    have Ny195 := Aside0.mk hy195
                    clear hy195
                    have H' := Aside0.mk H
                    clear H
                    go_wp2_with (first | ((with_reducible refine gate_dst (N := 17) rfl ?_); refine Kd.R_make (Kd.int .u8) _ 5 rfl (N := 17) rfl 22 _ _ rfl a1 rfl rfl Tryd.underlying22 (.int .u8 0) 1 info5 rfl (by decide) (by omega) 0 (ok := fun _ => True) (okp := fun _ => True) rfl (fun _ hk => hk) trivial (of_decide_eq_true (by first | (with_reducible assumption) | assumption)) (Nat.le_trans (Nat.mul_le_mul_right _ (of_decide_eq_true (by first | (with_reducible assumption) | assumption) : a1.toNat ≤ 281474976710656)) (by omega)) (Below.refl _ _) (Nat.le_refl _) ?_; intro v193 w14 ho15 hb hg_ hnew_; clear hg_ hnew_; (first | rw [← Ny192.out] at ho15 | (simp only [Int.reduceToNat] at ho15; rw [← Ny192.out] at ho15)); have n0_ := Aside0.mk (Kd.S_elder' (by (with_reducible repeat (first | apply Kd.S_alloc | apply Kd.S_drewN | apply Kd.S_drew)); exact HO_5.out) (Kd.R_base ho15) hb); have n1_ := Aside0.mk (Kd.R_lower ho15 (below_size (by repeat (first | (with_reducible first | exact HB.out | apply below_alloc | apply pw_below_drewN | apply below_drew1) | exact HB.out)))); have n2_ := Aside0.mk (below_step (by repeat (first | (with_reducible first | exact HB.out | apply below_alloc | apply pw_below_drewN | apply below_drew1) | exact HB.out)) hb); clear HO_5; clear HB; have HO_5 := n0_; have HO194 := n1_; have HB := n2_; clear n0_ n1_ n2_; clear hb ho15; have p13 : 0 ≤ (x11_1 : Int) := of_decide_eq_true (by first | (with_reducible assumption) | assumption); have q13 : (x11_1 : Int) < ((x5_1.length : Int) : Int) := of_decide_eq_true (by first | (with_reducible assumption) | assumption); obtain ⟨go13, co13, eo13, gb13, gl13, cl13, HG13⟩ := Kd.S_form HO_5.out (by omega); (first | cases eo13 | (injection eo13 with ea_ en_ ec_; (first | subst ea_ | (injection ea_ with ea_; subst ea_)); subst ec_; clear en_)); have GB13 := Aside0.mk gb13; have GG13 := Aside0.mk HG13; clear gb13 gl13 HG13; obtain ⟨_, ce13, hcl13, hM13, hcc13, hfr13, _, _⟩ := Kd.S_elem HO_5.out [] (x11_1 : Int) p13 q13; obtain ⟨ve13_0, rfl, ge13_0⟩ := hM13; have hx13_0 := hcc13 0 _ rfl; have hf13_0 := hfr13 0; (try simp only [show ((Kd.slice 5 (Kd.int .u8))).sz = 1 from rfl, Nat.mul_one, Nat.add_zero] at hx13_0); (try simp only [show ((Kd.slice 5 (Kd.int .u8))).sz = 1 from rfl, Nat.mul_one, Nat.add_zero] at hf13_0); (try clear hM13); clear hcl13 hcc13 hfr13; replace p13 := eq_true p13; replace q13 := eq_true q13; have n_ := Aside0.mk (Kd.S_mono (ok' := (fun k_ => some k_ ≠ (v193 : Value).ownBlock)) HO_5.out (fun k_ hk => hk.2)); clear HO_5; have HO_5 := n_; clear n_; have HX16 := Aside0.mk (show Kd.S (Kd.slice 5 (Kd.int .u8)) 22 w14 w.heap.size (fun k_ => ((fun _ => True)) k_ ∧ ¬ ((fun k_ => some k_ = (v193 : Value).ownBlock)) k_) (.slice (some ⟨go13, 0, none⟩) x5_1.length co7) x5_1 from (by (with_reducible repeat (first | apply Kd.S_alloc | apply Kd.S_drewN | apply Kd.S_drew)); exact Kd.S_mono HO_5.out (fun k_ hk => ⟨trivial, fun e_ => hk e_⟩))); obtain ⟨oki16, ce16, hcl16, hM16, hcc16, hfr16, hoki16, hH16⟩ := Kd.S_elem HX16.out [] (x11_1 : Int) (of_decide_eq_true (by first | (with_reducible assumption) | assumption)) (by have h_ : (x11_1 : Int) < ((x5_1.length : Int) : Int) := of_decide_eq_true (by first | (with_reducible assumption) | assumption); first | exact h_ | (have e_ := (Kd.S_reads' HO_5.out).1; omega) | simpa using h_); obtain ⟨ve16_0, rfl, ge16_0⟩ := hM16; have HP16 := Kd.S_seg hH16 (of_decide_eq_true (by first | (with_reducible assumption) | assumption)) (by have h_ : (x11_1 : Int) < ((x5_1.length : Int) : Int) := of_decide_eq_true (by first | (with_reducible assumption) | assumption); first | exact h_ | (have e_ := (Kd.S_reads' HO_5.out).1; omega) | simpa using h_) (seg := [v193]) (j := 0) (show 1 ≤ 1 from by decide) (x' := y192) (Kd.M_row (Kd.R_mono (Kd.R_tight rfl (Kd.R_mono (ok' := fun k_ => ((fun _ => True)) k_ ∧ k_ ≠ go13) (Kd.R_apart' (HO194.out) (Kd.S_typed HO_5.out) (by decide)) (fun k_ hk => ⟨trivial, fun e_ => (hk.2) (by rw [e_]; rfl)⟩))) (fun _ h_ => Or.inr (h_)))) (fun _ hk => hk) (fun k_ hk_ => ((Kd.R_mono (ok' := fun k_ => ((fun _ => True)) k_ ∧ k_ ≠ go13) (Kd.R_apart' (HO194.out) (Kd.S_typed HO_5.out) (by decide)) (fun k_ hk => ⟨trivial, fun e_ => (hk.2) (by rw [e_]; rfl)⟩))).1 k_ hk_.symm); have hx16_0 := hcc16 0 _ rfl; (try simp only [show ((Kd.slice 5 (Kd.int .u8))).sz = 1 from rfl, Nat.mul_one, Nat.add_zero] at hx16_0); have hf16_0 := hfr16 0; (try simp only [show ((Kd.slice 5 (Kd.int .u8))).sz = 1 from rfl, Nat.mul_one, Nat.add_zero] at hf16_0); (try clear hM16); clear hcl16 hcc16 hfr16 hoki16 hH16; (try simp only [show ((Kd.slice 5 (Kd.int .u8))).sz = 1 from rfl, Nat.mul_one, Nat.add_zero] at HP16)) | ((with_reducible refine gate_store (t := 22) (p := 18) rfl ?_); obtain ⟨Az_, cz_, ez_⟩ := Kd.R_slice HO194.out; refine store_event (t := 22) (p := 18) (v := ?vo_w17) (w1 := (w14.setCell ⟨go13, (x11_1 : Int).toNat, none⟩ (v193))) ?hg ?ho ?hn ?hr ?_; (case ho => rfl); (case hg => rfl); (case hn => rfl); (case hr => first | (go_simp; done) | (go_simp; rfl)); intro w17 hw; have hg : w14.grownBy w17 (some go13) := (by rw [hw]; exact HP16.2); have hp_ : Kd.S (Kd.slice 5 (Kd.int .u8)) 22 w17 w.heap.size (fun _ => True) (.slice (some ⟨go13, 0, none⟩) x5_1.length co7) y195 := (by rw [hw, Ny195.out]; exact HP16.1); clear HP16; have n0_ := Aside0.mk (hp_); have n1_ := Aside0.mk ((by rw [hw]; exact below_set (HB.out) GB13.out : Below w.heap.size w w17)); clear HO_5; clear HB; clear HO194; have HO_5 := n0_; have HB := n1_; clear n0_ n1_; clear hg hw hp_))
                    (try simp only [← hl5_1])
                    go_roundg k1
                    case measure => have := HK1.out; omega
                    case rel => exact ⟨(y195), (wrap64 (x11_1 + 1)), (by first | rfl | (simp; done) | (simp [*]; done)), H', ⟨by have := HK1.out; omega⟩, ⟨by (try simp only [hl5_1]); (with_reducible repeat (first | apply Kd.S_alloc | apply Kd.S_drewN | apply Kd.S_drew)); exact HO_5.out⟩, ⟨by repeat (first | (with_reducible first | exact HB.out | apply below_alloc | apply pw_below_drewN | apply below_drew1) | exact HB.out)⟩⟩
                  · rw [if_neg c12] at H
                    exact absurd H (by simp)
                · rw [if_neg c11] at H
                  exact absurd H (by simp)
              · rw [if_neg c10] at H
                exact absurd H (by simp)
            · rw [if_neg c9] at H
              exact absurd H (by simp)
          · rw [if_neg c8] at H
            have c8b0 : decide (x11_1 < (y189.length : Int)) = false := decide_eq_false c8
            (try rw [hl5_1] at c8b0)
            clear c8
            obtain rfl := Option.some.inj H
            go_wp2
            go_ret
            exact ⟨_, by first | rfl | (simp [errW_none, errW_some] <;> rfl) | (simp [*, errW_none, errW_some] <;> rfl), by (with_reducible repeat (first | apply Kd.S_alloc | apply Kd.S_drewN | apply Kd.S_drew)); exact HO_5.out, by repeat (first | (with_reducible first | exact HB.out | apply below_alloc | apply pw_below_drewN | apply below_drew1) | exact HB.out)⟩
    · rw [if_neg c4] at H
      exact absurd H (by simp)
  · rw [if_neg c3] at H
    exact absurd H (by simp)
mutual
def spec_Turned.l0 : Nat → List (List Int) → List (List Int) → Int → Int → Option ((List (List Int)))
  | 0, _, _, _, _ => none
  | k + 1, x0, x3, x12, x13 => if x13 < x12 then (if 0 ≤ x13 then (if x13 < (x0.length : Int) then (spec_Turned.l1 k x0 x3 x13 x12 x13 ((rd_L1 x0 x13).length : Int) 0) else (none)) else (none)) else (some x3)
def spec_Turned.l1 : Nat → List (List Int) → List (List Int) → Int → Int → Int → Int → Int → Option ((List (List Int)))
  | 0, _, _, _, _, _, _, _ => none
  | k + 1, x0, x3, x4, x12, x13, x20, x21 => if x21 < x20 then (if 0 ≤ x21 then (if x21 < (x3.length : Int) then (if 0 ≤ x4 then (if x4 < (x0.length : Int) then (if x21 < ((rd_L1 x0 x4).length : Int) then (if x4 < ((rd_L1 x3 x21).length : Int) then (spec_Turned.l1 k x0 (x3.set (x21 : Int).toNat ((rd_L1 x3 x21).set (x4 : Int).toNat (rd (rd_L1 x0 x4) x21))) x4 x12 x13 x20 (wrap64 (x21 + 1))) else (none)) else (none)) else (none)) else (none)) else (none)) else (none)) else (spec_Turned.l0 k x0 x3 x12 (wrap64 (x13 + 1)))
end
def spec_Turned.f (k : Nat) (l0 : List (List Int)) : Option ((List (List Int))) := (spec_Columns.f l0).bind fun t196 => ((spec_Zeros.f k t196 (l0.length : Int)).bind fun t197 => (spec_Turned.l0 k l0 t197 (l0.length : Int) 0))
theorem spec_Turned.mono_l : ∀ k, (∀ y0 y1 y2 y3, LeO (spec_Turned.l0 k y0 y1 y2 y3) (spec_Turned.l0 (k + 1) y0 y1 y2 y3)) ∧ (∀ y0 y1 y2 y3 y4 y5 y6, LeO (spec_Turned.l1 k y0 y1 y2 y3 y4 y5 y6) (spec_Turned.l1 (k + 1) y0 y1 y2 y3 y4 y5 y6))
  | 0 => ⟨fun _ _ _ _ r h => by simp [spec_Turned.l0] at h, fun _ _ _ _ _ _ _ r h => by simp [spec_Turned.l1] at h⟩
  | k + 1 => by
    obtain ⟨ih0, ih1⟩ := spec_Turned.mono_l k
    refine ⟨?_, ?_⟩
    · intro y0 y1 y2 y3
      unfold spec_Turned.l0
      repeat' first
      | (with_reducible exact ih0 _ _ _ _)
      | (with_reducible exact ih1 _ _ _ _ _ _ _)
      | (with_reducible exact spec_Zeros.mono _ _ _)
      | (with_reducible exact LeO.refl _)
      | (with_reducible exact LeO.none _)
      | (with_reducible refine LeO.ite ?_ ?_)
      | (with_reducible refine LeO.bind ?_ (fun _ => ?_))
      | exact ih0 _ _ _ _
      | exact ih1 _ _ _ _ _ _ _
      | exact spec_Zeros.mono _ _ _
      | exact LeO.none _
      | refine LeO.ite ?_ ?_
      | refine LeO.bind ?_ (fun _ => ?_)
    · intro y0 y1 y2 y3 y4 y5 y6
      unfold spec_Turned.l1
      repeat' first
      | (with_reducible exact ih0 _ _ _ _)
      | (with_reducible exact ih1 _ _ _ _ _ _ _)
      | (with_reducible exact spec_Zeros.mono _ _ _)
      | (with_reducible exact LeO.refl _)
      | (with_reducible exact LeO.none _)
      | (with_reducible refine LeO.ite ?_ ?_)
      | (with_reducible refine LeO.bind ?_ (fun _ => ?_))
      | exact ih0 _ _ _ _
      | exact ih1 _ _ _ _ _ _ _
      | exact spec_Zeros.mono _ _ _
      | exact LeO.none _
      | refine LeO.ite ?_ ?_
      | refine LeO.bind ?_ (fun _ => ?_)
theorem spec_Turned.mono : ∀ a0 k, LeO (spec_Turned.f k a0) (spec_Turned.f (k + 1) a0) := by
  intro a0 k
  obtain ⟨ih0, ih1⟩ := spec_Turned.mono_l k
  unfold spec_Turned.f
  repeat' first
      | (with_reducible exact ih0 _ _ _ _)
      | (with_reducible exact ih1 _ _ _ _ _ _ _)
      | (with_reducible exact spec_Zeros.mono _ _ _)
      | (with_reducible exact LeO.refl _)
      | (with_reducible exact LeO.none _)
      | (with_reducible refine LeO.ite ?_ ?_)
      | (with_reducible refine LeO.bind ?_ (fun _ => ?_))
      | exact ih0 _ _ _ _
      | exact ih1 _ _ _ _ _ _ _
      | exact spec_Zeros.mono _ _ _
      | exact LeO.none _
      | refine LeO.ite ?_ ?_
      | refine LeO.bind ?_ (fun _ => ?_)
def spec_Turned.T8 : Bool × List (List Nat × List Nat) := (true, [([], []), ([], []), ([0, 1], [0, 1]), ([2], [2]), ([], []), ([], []), ([], []), ([5, 6], [5, 6]), ([7], [7]), ([], []), ([8, 9], [8, 9]), ([10], [10]), ([3, 4, 0, 1, 2, 3, 4, 5, 6, 7, 8, 9, 10, 11], [3, 4]), ([12, 11, 0, 1, 2, 3, 4, 5, 6, 7, 8, 9, 10, 11], [11, 12])])
def spec_Turned.B8 : List Nat := [0, 0, 3, 7, 0, 0, 0, 96, 224, 0, 992, 2016, 4095, 8191]
theorem spec_Turned.tab8 : rtab .any (opsOf Tryd.f28 8) = spec_Turned.T8 := by kernel_rfl
theorem spec_Turned.bits8 : waitsOk spec_Turned.T8.2 spec_Turned.B8 = true := by kernel_rfl
set_option maxHeartbeats 8000000 in
set_option maxRecDepth 100000 in
theorem spec_Turned.calls (k : Nat) (A0 : Option Addr) (c0 : Nat) (l0 : List (List Int)) (r : List (List Int)) (w : World) (hr0 : Kd.C (Kd.slice 5 (Kd.int .u8)) w A0 l0.length l0) (hc0 : l0.length ≤ c0) (h : spec_Turned.f k l0 = some r) :
    Calls Tryd.prog 28 #[.slice A0 l0.length c0] w fun e w' => ∃ v0_ : Value, e = .returned (v0_) ∧ Kd.S (Kd.slice 5 (Kd.int .u8)) 22 w' w.heap.size (fun _ => True) v0_ r ∧ Below w.heap.size w w' := by
  have HR0 := Aside0.mk hr0
  have HC0 := Aside0.mk hc0
  clear hr0 hc0
  have HB := Aside0.mk (Below.refl w.heap.size w)
  have H : ((spec_Columns.f l0).bind fun t196 => ((spec_Zeros.f k t196 (l0.length : Int)).bind fun t197 => (spec_Turned.l0 k l0 t197 (l0.length : Int) 0))) = some r := h
  clear h
  replace H := Option.bind_eq_some_iff.mp H
  obtain ⟨t196, A20, H⟩ := H
  replace H : ((spec_Zeros.f k t196 (l0.length : Int)).bind fun t197 => (spec_Turned.l0 k l0 t197 (l0.length : Int) 0)) = some r := H
  have A2 := Aside0.mk A20
  clear A20
  replace H := Option.bind_eq_some_iff.mp H
  obtain ⟨t197, A30, H⟩ := H
  replace H : (spec_Turned.l0 k l0 t197 (l0.length : Int) 0) = some r := H
  have A3 := Aside0.mk A30
  clear A30
  have H' := Aside0.mk H
  clear H
  go_enter Tryd.func28, Tryd.ntmps28
  go_wp2_with (first | ((with_reducible refine gate_callee (f := 18) rfl ?_); refine goesL_ (some 7) rfl rfl Tryd.func18 (by kernel_rfl) rfl #[.slice A0 l0.length c0] rfl (by (try simp only [List.map_toArray, List.map_cons, List.map_nil]); first | done | rfl | (simp only [List.length_drop, List.length_take]; rfl)) ?_; (with_reducible refine (spec_Columns.calls _ _ l0 t196 _ ?side1 ?side2 A2.out).mono ?_); (case side1 => repeat (first | exact HR0.out | (with_reducible refine Kd.C_alloc ?_ _) | (with_reducible refine Kd.C_drewN ?_ _) | (with_reducible refine Kd.C_drew ?_))); (case side2 => exact HC0.out); rintro e w' ⟨rfl, ⟨nd, rfl⟩⟩; refine ⟨_, rfl, ?_⟩) | ((with_reducible refine gate_callee (f := 40) rfl ?_); refine goesL_ (some 10) rfl rfl Tryd.func40 (by kernel_rfl) rfl #[.int .i64 t196, .int .i64 (l0.length : Int)] rfl (by (try simp only [List.map_toArray, List.map_cons, List.map_nil]); first | done | rfl | (simp only [List.length_drop, List.length_take]; rfl)) ?_; (with_reducible refine (spec_Zeros.calls k t196 (l0.length : Int) t197 _ A3.out).mono ?_); rintro e w4 ⟨v198, rfl, ho0, hb⟩; refine ⟨_, rfl, ?_⟩; have n0_ := Aside0.mk (Kd.S_lower ho0 (below_size (by repeat (first | (with_reducible first | exact HB.out | apply below_alloc | apply pw_below_drewN | apply below_drew1) | exact HB.out)))); have n1_ := Aside0.mk (below_step (by repeat (first | (with_reducible first | exact HB.out | apply below_alloc | apply pw_below_drewN | apply below_drew1) | exact HB.out)) hb); clear HB; have HO199 := n0_; have HB := n1_; clear n0_ n1_; (try clear hb); (try clear hb2); (try clear hk); (try clear hi); (try clear ho0)))
  try simp only [Act.put, List.setIfInBounds_toArray, List.set_cons_zero, List.set_cons_succ]
  go_loopg [13] k (fun kq v13 w' => ∃ (x3_1 : List (List Int)) (x13_1 : Int), v13 = .int .i64 x13_1 ∧ Aside0 (spec_Turned.l0 kq l0 x3_1 (l0.length : Int) x13_1 = some r) ∧ Aside0 (kq ≤ k) ∧ Aside0 (Kd.S (Kd.slice 5 (Kd.int .u8)) 22 w' w.heap.size (fun _ => True) v198 x3_1) ∧ Aside0 (Below w.heap.size w w'))
  case atStart => exact ⟨(t197), (0), (by first | rfl | (simp; done) | (simp [*]; done)), H', ⟨Nat.le_refl _⟩, ⟨by (with_reducible repeat (first | apply Kd.S_alloc | apply Kd.S_drewN | apply Kd.S_drew)); exact HO199.out⟩, ⟨by repeat (first | (with_reducible first | exact HB.out | apply below_alloc | apply pw_below_drewN | apply below_drew1) | exact HB.out)⟩⟩
  case round =>
    clear H'
    try clear c1
    try clear c2
    try clear p2
    try clear c4
    obtain ⟨x3_1, x13_1, rfl, HA, HK1, HO_3, HB⟩ := hrel
    cases gk with
    | zero => exact absurd HA.out (by simp [spec_Turned.l0])
    | succ k1 =>
      have H := HA.out
      clear HA
      simp only [spec_Turned.l0] at H
      by_cases c5 : x13_1 < (l0.length : Int)
      · rw [if_pos c5] at H
        have c5b0 : decide (x13_1 < (l0.length : Int)) = true := decide_eq_true c5
        clear c5
        by_cases c6 : 0 ≤ x13_1
        · rw [if_pos c6] at H
          have c6b0 : decide (0 ≤ x13_1) = true := decide_eq_true c6
          clear c6
          by_cases c7 : x13_1 < (l0.length : Int)
          · rw [if_pos c7] at H
            have c7b0 : decide (x13_1 < (l0.length : Int)) = true := decide_eq_true c7
            clear c7
            have H' := Aside0.mk H
            clear H
            have p200 : 0 ≤ (x13_1 : Int) := of_decide_eq_true (by first | (with_reducible assumption) | assumption)
            have q200 : x13_1 < (l0.length : Int) := of_decide_eq_true (by first | (with_reducible assumption) | assumption)
            obtain ⟨ad200, A200_0, c200_0, e200, hx200_0, hl200_0, hi200_0⟩ := at_L1 HR0.out x13_1 p200 q200
            cases e200
            (try replace hx200_0 := (HB.out.cell (World.block_lt_of_cell? w _ hx200_0)).trans hx200_0)
            have HR200_0 := Aside0.mk hi200_0
            have HC200_0 := Aside0.mk hl200_0
            clear hi200_0 hl200_0
            replace p200 := eq_true p200
            replace q200 := eq_true q200
            go_wp2
            try simp only [Act.put, List.setIfInBounds_toArray, List.set_cons_zero, List.set_cons_succ]
            go_loopg [21] k1 (fun kq v21 w' => ∃ (x3_2 : List (List Int)) (x21_2 : Int), v21 = .int .i64 x21_2 ∧ Aside0 (spec_Turned.l1 kq l0 x3_2 x13_1 (l0.length : Int) x13_1 ((rd_L1 l0 x13_1).length : Int) x21_2 = some r) ∧ Aside0 (kq ≤ k1) ∧ Aside0 (Kd.S (Kd.slice 5 (Kd.int .u8)) 22 w' w.heap.size (fun _ => True) v198 x3_2) ∧ Aside0 (Below w.heap.size w w'))
            case atStart => exact ⟨(x3_1), (0), (by first | rfl | (simp; done) | (simp [*]; done)), H', ⟨Nat.le_refl _⟩, ⟨by (with_reducible repeat (first | apply Kd.S_alloc | apply Kd.S_drewN | apply Kd.S_drew)); exact HO_3.out⟩, ⟨by repeat (first | (with_reducible first | exact HB.out | apply below_alloc | apply pw_below_drewN | apply below_drew1) | exact HB.out)⟩⟩
            case round =>
              clear H'
              try clear c1
              try clear c2
              try clear p2
              try clear q2
              try clear hx2
              try clear c4
              try clear c5
              try clear c5b0
              try clear c6
              try clear c6b0
              try clear c7
              try clear c7b0
              try clear hx200_0
              try clear p2
              try clear p200
              try clear q200
              obtain ⟨x3_2, x21_2, rfl, HA, HK2, HO_3, HB⟩ := hrel
              cases gk with
              | zero => exact absurd HA.out (by simp [spec_Turned.l1])
              | succ k2 =>
                have H := HA.out
                clear HA
                simp only [spec_Turned.l1] at H
                by_cases c8 : x21_2 < ((rd_L1 l0 x13_1).length : Int)
                · rw [if_pos c8] at H
                  have c8b0 : decide (x21_2 < ((rd_L1 l0 x13_1).length : Int)) = true := decide_eq_true c8
                  clear c8
                  by_cases c9 : 0 ≤ x21_2
                  · rw [if_pos c9] at H
                    have c9b0 : decide (0 ≤ x21_2) = true := decide_eq_true c9
                    clear c9
                    by_cases c10 : x21_2 < (x3_2.length : Int)
                    · rw [if_pos c10] at H
                      have c10b0 : decide (x21_2 < (x3_2.length : Int)) = true := decide_eq_true c10
                      clear c10
                      by_cases c11 : 0 ≤ x13_1
                      · rw [if_pos c11] at H
                        have c11b0 : decide (0 ≤ x13_1) = true := decide_eq_true c11
                        clear c11
                        by_cases c12 : x13_1 < (l0.length : Int)
                        · rw [if_pos c12] at H
                          have c12b0 : decide (x13_1 < (l0.length : Int)) = true := decide_eq_true c12
                          clear c12
                          by_cases c13 : x21_2 < ((rd_L1 l0 x13_1).length : Int)
                          · rw [if_pos c13] at H
                            have c13b0 : decide (x21_2 < ((rd_L1 l0 x13_1).length : Int)) = true := decide_eq_true c13
                            clear c13
                            by_cases c14 : x13_1 < ((rd_L1 x3_2 x21_2).length : Int)
                            · rw [if_pos c14] at H
                              have c14b0 : decide (x13_1 < ((rd_L1 x3_2 x21_2).length : Int)) = true := decide_eq_true c14
                              clear c14
                              obtain ⟨y204, hy204⟩ : ∃ y_ : List Int, y_ = ((rd_L1 x3_2 x21_2).set (x13_1 : Int).toNat (rd (rd_L1 l0 x13_1) x21_2)) := ⟨_, rfl⟩
                              replace H : (spec_Turned.l1 k2 l0 (x3_2.set (x21_2 : Int).toNat y204) x13_1 (l0.length : Int) x13_1 ((rd_L1 l0 x13_1).length : Int) (wrap64 (x21_2 + 1))) = some r := by first | (rw [hy204]; with_reducible exact H) | (have H2_ := (Option.bind_some _ _).symm.trans H; rw [hy204]; with_reducible exact H2_) | (have H2_ := (Option.bind_some _ _).symm.trans H; with_reducible exact H2_) | with_reducible exact H | (rw [hy204]; exact H) | exact H
                              have Ny204 := Aside0.mk hy204
                              clear hy204
                              obtain ⟨y206, hy206⟩ : ∃ y_ : List (List Int), y_ = (x3_2.set (x21_2 : Int).toNat y204) := ⟨_, rfl⟩
                              replace H : (spec_Turned.l1 k2 l0 y206 x13_1 (l0.length : Int) x13_1 ((rd_L1 l0 x13_1).length : Int) (wrap64 (x21_2 + 1))) = some r := by first | (rw [hy206]; with_reducible exact H) | (have H2_ := (Option.bind_some _ _).symm.trans H; rw [hy206]; with_reducible exact H2_) | (have H2_ := (Option.bind_some _ _).symm.trans H; with_reducible exact H2_) | with_reducible exact H | (rw [hy206]; exact H) | exact H
                              have Ny206 := Aside0.mk hy206
                              clear hy206
                              have H' := Aside0.mk H
                              clear H
                              try go_wp2
                              have n0_ := Aside0.mk (Kd.S_drew HO_3.out)
                              have n1_ := Aside0.mk (below_drew1 HB.out)
                              clear HO_3
                              clear HB
                              have HO_3 := n0_
                              have HB := n1_
                              clear n0_ n1_
                              obtain ⟨Ao17, co17, eo17⟩ := Kd.S_slice HO_3.out
                              (first | subst eo17 | (injection eo17 with f1_ f2_ f3_; have f4_ := f1_.symm; have f5_ := f3_.symm; clear f1_ f2_ f3_; subst f4_; subst f5_))
                              have p201 : 0 ≤ (x21_2 : Int) := of_decide_eq_true (by first | (with_reducible assumption) | assumption)
                              have q201 : x21_2 < (x3_2.length : Int) := of_decide_eq_true (by first | (with_reducible assumption) | assumption)
                              obtain ⟨ad201, A201_0, c201_0, e201, hx201_0, hl201_0, hi201_0⟩ := at_L1 (Kd.S_reads' HO_3.out).2.2 x21_2 p201 q201
                              cases e201
                              obtain ⟨ce201, hce201, hMe201, hcc201⟩ := Kd.S_get HO_3.out [] x21_2 p201 (by first | exact q201 | exact of_decide_eq_true (by first | (with_reducible assumption) | assumption) | (have e_ := (Kd.S_reads' HO_3.out).1; omega))
                              obtain ⟨ve201_0, rfl, ge201_0⟩ := hMe201
                              have hv201_0 := hcc201 0 _ rfl
                              rw [Nat.add_zero, show ((Kd.slice 5 (Kd.int .u8))).sz = 1 from rfl, Nat.mul_one] at hv201_0
                              replace hv201_0 := Option.some.inj (hv201_0.symm.trans hx201_0)
                              rw [hv201_0] at ge201_0
                              have HL201_0 := Aside0.mk (show Kd.R (Kd.int .u8) 5 _ _ _ _ (rd_L1 x3_2 x21_2) from ge201_0)
                              clear hv201_0 ge201_0
                              have HX201_0 := Aside0.mk hx201_0
                              clear hcc201 hce201
                              have HR201_0 := Aside0.mk hi201_0
                              have HC201_0 := Aside0.mk hl201_0
                              clear hi201_0 hl201_0
                              replace p201 := eq_true p201
                              replace q201 := eq_true q201
                              have p202 : 0 ≤ (x13_1 : Int) := of_decide_eq_true (by first | (with_reducible assumption) | assumption)
                              have q202 : x13_1 < (l0.length : Int) := of_decide_eq_true (by first | (with_reducible assumption) | assumption)
                              obtain ⟨ad202, A202_0, c202_0, e202, hx202_0, hl202_0, hi202_0⟩ := at_L1 HR0.out x13_1 p202 q202
                              have hw202_0 := hx202_0
                              obtain rfl : ad200 = ad202 := (by injection e202)
                              (try replace hx202_0 := (HB.out.cell (World.block_lt_of_cell? w _ hx202_0)).trans hx202_0)
                              have HR202_0 := Aside0.mk hi202_0
                              have HC202_0 := Aside0.mk hl202_0
                              clear hi202_0 hl202_0
                              replace p202 := eq_true p202
                              replace q202 := eq_true q202
                              have p203 : 0 ≤ (x21_2 : Int) := of_decide_eq_true (by first | (with_reducible assumption) | assumption)
                              have q203 : x21_2 < ((rd_L1 l0 x13_1).length : Int) := of_decide_eq_true (by first | (with_reducible assumption) | assumption)
                              obtain ⟨ad203, e203, hx203_0⟩ := Kd.at_int HR202_0.out x21_2 p203 q203
                              have hw203_0 := hx203_0
                              cases e203
                              (try replace hx203_0 := (HB.out.cell (World.block_lt_of_cell? w _ hx203_0)).trans hx203_0)
                              replace p203 := eq_true p203
                              replace q203 := eq_true q203
                              have p15 : 0 ≤ (x13_1 : Int) := of_decide_eq_true (by first | (with_reducible assumption) | assumption)
                              have q15 : (x13_1 : Int) < (((rd_L1 x3_2 x21_2).length : Int) : Int) := of_decide_eq_true (by first | (with_reducible assumption) | assumption)
                              obtain ⟨go15, co15, eo15, gb15, gl15, cl15, HG15⟩ := Kd.R_form HL201_0.out (by omega)
                              (first | cases eo15 | (injection eo15 with ea_ en_ ec_; (first | subst ea_ | (injection ea_ with ea_; subst ea_)); subst ec_; clear en_))
                              have GB15 := Aside0.mk gb15
                              have GG15 := Aside0.mk HG15
                              clear gb15 gl15 HG15
                              obtain ⟨hx15_0, hf15_0⟩ := Kd.R_celln 0 HL201_0.out (x13_1 : Int) p15 q15
                              replace p15 := eq_true p15
                              replace q15 := eq_true q15
                              have hq18 : (x21_2 : Int) < (x3_2.length : Int) := (by have h_ : (x21_2 : Int) < ((x3_2.length : Int) : Int) := of_decide_eq_true (by first | (with_reducible assumption) | assumption); first | exact h_ | (have e_ := (Kd.S_reads' HO_3.out).1; omega) | simpa only [List.length_set, List.length_set] using h_)
                              obtain ⟨oki18, ce18, hcl18, hM18, hcc18, hok18, hbk18⟩ := Kd.S_borrow HO_3.out [] (x21_2 : Int) (of_decide_eq_true (by first | (with_reducible assumption) | assumption)) hq18
                              obtain ⟨ve18_0, rfl, ge18_0⟩ := hM18
                              have hv18 := hcc18 0 _ rfl
                              rw [Nat.add_zero, show ((Kd.slice 5 (Kd.int .u8))).sz = 1 from rfl, Nat.mul_one] at hv18
                              replace hv18 := Option.some.inj (hv18.symm.trans HX201_0.out)
                              subst hv18
                              clear hcc18 hcl18
                              replace ge18_0 := (show Kd.R (Kd.int .u8) 5 _ _ _ _ (rd_L1 x3_2 x21_2) from ge18_0)
                              have HP18 := Kd.R_putg ge18_0 (x13_1 : Int) (rd (rd_L1 l0 x13_1) x21_2)
                              rw [← Ny204.out] at HP18
                              have HS18 := hbk18 HP18.2 (fun k_ e_ => by injection e_ with e_; subst e_; exact ge18_0.1 _ rfl) (x' := y204) (Kd.M_row HP18.1)
                              rw [← Ny206.out] at HS18
                              have HQ18 := Aside0.mk HS18
                              clear HP18 HS18 hbk18 hok18
                              refine start_ (n := 14) (S := fun w' => w'.cell? (ad201.add (x21_2).toNat) = some (.slice (some ⟨go15, 0, none⟩) (rd_L1 x3_2 x21_2).length c201_0) ∧ w'.cell? (ad200.add (x13_1).toNat) = some (.slice (some ad203) (rd_L1 l0 x13_1).length c202_0) ∧ w'.cell? (ad203.add (x21_2).toNat) = some (.int .u8 (rd (rd_L1 l0 x13_1) x21_2))) (ds := [13]) #[false, false, false, false, false, false, false, false, false, false, false, false, false, false] (by kernel_rfl) rfl rfl ⟨hx201_0, ((HB.out.cell (World.block_lt_of_cell? w _ hw202_0)).trans hw202_0), ((HB.out.cell (World.block_lt_of_cell? w _ hw203_0)).trans hw203_0)⟩ (fun hHeld => ?_); refine with_tabW spec_Turned.tab8 spec_Turned.bits8 (fun HT_ HW_ => ?_)
                              generalize wr.drew = w16 at HO_3 HB GG15 HL201_0 HQ18 HR201_0 HR202_0 HX201_0 hf15_0 hx15_0 hx201_0 hx202_0 hx203_0 hHeld ⊢
                              refine pure_ (i := 0) (N := some 24) (v := ?_) (a' := ?_) #[true, false, false, false, false, false, false, false, false, false, false, false, false, false] rfl rfl (any_of HT_.out (by kernel_rfl)) (fun _ _ _ h => h) (Or.inl ⟨by rfl, ?_⟩) ?_ ?_
                              rotate_left
                              · intro w'
                                go_simp
                                with_reducible rfl
                              rotate_left
                              · simp only [Act.put, List.setIfInBounds_toArray, List.set_cons_zero, List.set_cons_succ, i64_w, i32_w]
                                rfl
                              refine pure_ (i := 1) (N := some 25) (v := ?_) (a' := ?_) #[true, true, false, false, false, false, false, false, false, false, false, false, false, false] rfl rfl (any_of HT_.out (by kernel_rfl)) (fun _ _ _ h => h) (Or.inl ⟨by rfl, ?_⟩) ?_ ?_
                              rotate_left
                              · intro w'
                                go_simp
                                with_reducible rfl
                              rotate_left
                              · simp only [Act.put, List.setIfInBounds_toArray, List.set_cons_zero, List.set_cons_succ, i64_w, i32_w]
                                rfl
                              refine pure_ (i := 2) (N := some 26) (v := ?_) (a' := ?_) #[true, true, true, false, false, false, false, false, false, false, false, false, false, false] rfl rfl (any_of HT_.out (by kernel_rfl)) (fun _ _ _ h => h) (Or.inl ⟨by rfl, ?_⟩) ?_ ?_
                              rotate_left
                              · intro w'
                                go_simp
                                with_reducible rfl
                              rotate_left
                              · simp only [Act.put, List.setIfInBounds_toArray, List.set_cons_zero, List.set_cons_succ, i64_w, i32_w]
                                rfl
                              refine pure_ (i := 4) (N := some 28) (v := ?_) (a' := ?_) #[true, true, true, false, true, false, false, false, false, false, false, false, false, false] rfl rfl (any_of HT_.out (by kernel_rfl)) (fun _ _ _ h => h) (Or.inl ⟨by rfl, ?_⟩) ?_ ?_
                              rotate_left
                              · intro w'
                                go_simp
                                with_reducible rfl
                              rotate_left
                              · simp only [Act.put, List.setIfInBounds_toArray, List.set_cons_zero, List.set_cons_succ, i64_w, i32_w]
                                rfl
                              refine pure_ (i := 5) (N := some 29) (v := ?_) (a' := ?_) #[true, true, true, false, true, true, false, false, false, false, false, false, false, false] rfl rfl (any_of HT_.out (by kernel_rfl)) (fun _ _ _ h => h) (Or.inl ⟨by rfl, ?_⟩) ?_ ?_
                              rotate_left
                              · intro w'
                                go_simp
                                with_reducible rfl
                              rotate_left
                              · simp only [Act.put, List.setIfInBounds_toArray, List.set_cons_zero, List.set_cons_succ, i64_w, i32_w]
                                rfl
                              refine pure_ (i := 6) (N := some 30) (v := ?_) (a' := ?_) #[true, true, true, false, true, true, true, false, false, false, false, false, false, false] rfl rfl (any_of HT_.out (by kernel_rfl)) (fun _ _ _ h => h) (Or.inl ⟨by rfl, ?_⟩) ?_ ?_
                              rotate_left
                              · intro w'
                                go_simp
                                with_reducible rfl
                              rotate_left
                              · simp only [Act.put, List.setIfInBounds_toArray, List.set_cons_zero, List.set_cons_succ, i64_w, i32_w]
                                rfl
                              refine pure_ (i := 7) (N := some 31) (v := ?_) (a' := ?_) #[true, true, true, false, true, true, true, true, false, false, false, false, false, false] rfl rfl (any_of HT_.out (by kernel_rfl)) (fun _ _ _ h => h) (Or.inl ⟨by rfl, ?_⟩) ?_ ?_
                              rotate_left
                              · intro w'
                                go_simp
                                with_reducible rfl
                              rotate_left
                              · simp only [Act.put, List.setIfInBounds_toArray, List.set_cons_zero, List.set_cons_succ, i64_w, i32_w]
                                rfl
                              refine pure_ (i := 9) (N := some 33) (v := ?_) (a' := ?_) #[true, true, true, false, true, true, true, true, false, true, false, false, false, false] rfl rfl (any_of HT_.out (by kernel_rfl)) (fun _ _ _ h => h) (Or.inl ⟨by rfl, ?_⟩) ?_ ?_
                              rotate_left
                              · intro w'
                                go_simp
                                with_reducible rfl
                              rotate_left
                              · simp only [Act.put, List.setIfInBounds_toArray, List.set_cons_zero, List.set_cons_succ, i64_w, i32_w]
                                rfl
                              refine take_ (i := 3) (N := some 27) (v := ?_) (a' := ?_) #[true, true, true, true, true, true, true, true, false, true, false, false, false, false] rfl rfl (take_ofW HT_.out HW_.out (by kernel_rfl)) (fun _ _ _ h => h) (Or.inl ⟨by rfl, ?_⟩) hHeld ?_ ?_
                              rotate_left
                              · rintro w' ⟨s0, s1, s2⟩
                                go_simp
                                with_reducible rfl
                              rotate_left
                              · simp only [Act.put, List.setIfInBounds_toArray, List.set_cons_zero, List.set_cons_succ, i64_w, i32_w]
                                rfl
                              refine take_ (i := 8) (N := some 32) (v := ?_) (a' := ?_) #[true, true, true, true, true, true, true, true, true, true, false, false, false, false] rfl rfl (take_ofW HT_.out HW_.out (by kernel_rfl)) (fun _ _ _ h => h) (Or.inl ⟨by rfl, ?_⟩) hHeld ?_ ?_
                              rotate_left
                              · rintro w' ⟨s0, s1, s2⟩
                                go_simp
                                with_reducible rfl
                              rotate_left
                              · simp only [Act.put, List.setIfInBounds_toArray, List.set_cons_zero, List.set_cons_succ, i64_w, i32_w]
                                rfl
                              refine pure_ (i := 10) (N := some 34) (v := ?_) (a' := ?_) #[true, true, true, true, true, true, true, true, true, true, true, false, false, false] rfl rfl (any_of HT_.out (by kernel_rfl)) (fun _ _ _ h => h) (Or.inl ⟨by rfl, ?_⟩) ?_ ?_
                              rotate_left
                              · intro w'
                                go_simp
                                with_reducible rfl
                              rotate_left
                              · simp only [Act.put, List.setIfInBounds_toArray, List.set_cons_zero, List.set_cons_succ, i64_w, i32_w]
                                rfl
                              refine take_ (i := 11) (N := some 35) (v := ?_) (a' := ?_) #[true, true, true, true, true, true, true, true, true, true, true, true, false, false] rfl rfl (take_ofW HT_.out HW_.out (by kernel_rfl)) (fun _ _ _ h => h) (Or.inl ⟨by rfl, ?_⟩) hHeld ?_ ?_
                              rotate_left
                              · rintro w' ⟨s0, s1, s2⟩
                                go_simp
                                with_reducible rfl
                              rotate_left
                              · simp only [Act.put, List.setIfInBounds_toArray, List.set_cons_zero, List.set_cons_succ, i64_w, i32_w]
                                rfl
                              refine pure_ (i := 12) (N := some 36) (v := ?_) (a' := ?_) #[true, true, true, true, true, true, true, true, true, true, true, true, true, false] rfl rfl (any_of HT_.out (by kernel_rfl)) (fun _ _ _ h => h) (Or.inl ⟨by rfl, ?_⟩) ?_ ?_
                              rotate_left
                              · intro w'
                                go_simp
                                with_reducible rfl
                              rotate_left
                              · simp only [Act.put, List.setIfInBounds_toArray, List.set_cons_zero, List.set_cons_succ, i64_w, i32_w]
                                rfl
                              refine last_ (i := 13) (N := none) #[true, true, true, true, true, true, true, true, true, true, true, true, true, true] rfl rfl (one_of HT_.out (by kernel_rfl)) (by decide) (fun K hK => ?_)
                              refine skip_ (w1 := ?_) (by rfl) rfl ?_ ?_
                              rotate_left
                              · go_simp
                                rfl
                              refine hK.out _ _ ?_
                              clear hK K
                              refine done_ (done_of HT_.out (by kernel_rfl)) ?_
                              try go_wp2
                              go_roundg k2
                              case measure => have := HK1.out; have := HK2.out; omega
                              case rel => exact ⟨(y206), (wrap64 (x21_2 + 1)), (by first | rfl | (simp; done) | (simp [*]; done)), H', ⟨by have := HK1.out; have := HK2.out; omega⟩, ⟨by (with_reducible repeat (first | apply Kd.S_alloc | apply Kd.S_drewN | apply Kd.S_drew)); exact HQ18.out⟩, ⟨by repeat (first | (with_reducible first | exact HB.out | apply below_alloc | apply pw_below_drewN | apply below_drew1 | refine below_set ?_ GB15.out) | exact HB.out)⟩⟩
                            · rw [if_neg c14] at H
                              exact absurd H (by simp)
                          · rw [if_neg c13] at H
                            exact absurd H (by simp)
                        · rw [if_neg c12] at H
                          exact absurd H (by simp)
                      · rw [if_neg c11] at H
                        exact absurd H (by simp)
                    · rw [if_neg c10] at H
                      exact absurd H (by simp)
                  · rw [if_neg c9] at H
                    exact absurd H (by simp)
                · rw [if_neg c8] at H
                  have c8b0 : decide (x21_2 < ((rd_L1 l0 x13_1).length : Int)) = false := decide_eq_false c8
                  clear c8
                  have H' := Aside0.mk H
                  clear H
                  go_wp2
                  go_roundg k2
                  case measure => have := HK1.out; have := HK2.out; omega
                  case rel => exact ⟨(x3_2), (wrap64 (x13_1 + 1)), (by first | rfl | (simp; done) | (simp [*]; done)), H', ⟨by have := HK1.out; have := HK2.out; omega⟩, ⟨by (with_reducible repeat (first | apply Kd.S_alloc | apply Kd.S_drewN | apply Kd.S_drew)); exact HO_3.out⟩, ⟨by repeat (first | (with_reducible first | exact HB.out | apply below_alloc | apply pw_below_drewN | apply below_drew1) | exact HB.out)⟩⟩
          · rw [if_neg c7] at H
            exact absurd H (by simp)
        · rw [if_neg c6] at H
          exact absurd H (by simp)
      · rw [if_neg c5] at H
        have c5b0 : decide (x13_1 < (l0.length : Int)) = false := decide_eq_false c5
        clear c5
        obtain rfl := Option.some.inj H
        go_wp2
        go_ret
        exact ⟨_, by first | rfl | (simp [errW_none, errW_some] <;> rfl) | (simp [*, errW_none, errW_some] <;> rfl), by (with_reducible repeat (first | apply Kd.S_alloc | apply Kd.S_drewN | apply Kd.S_drew)); exact HO_3.out, by repeat (first | (with_reducible first | exact HB.out | apply below_alloc | apply pw_below_drewN | apply below_drew1) | exact HB.out)⟩
def spec_remainder.l0 : Nat → Int → Int → Int → Int → Option (Int)
  | 0, _, _, _, _ => none
  | k + 1, x0, x1, x2, x7 => if x7 ≥ x2 then (if 0 ≤ x7 then (if (Go.bits .and .u64 (shr .u64 x0 x7) 1) = 1 then (if 0 ≤ (wrap64 (x7 - x2)) then (spec_remainder.l0 k (Go.bits .xor .u64 x0 (shl .u64 x1 (wrap64 (x7 - x2)))) x1 x2 (wrap64 (x7 - 1))) else (none)) else (spec_remainder.l0 k x0 x1 x2 (wrap64 (x7 - 1)))) else (none)) else (some x0)
def spec_remainder.f (k : Nat) (a0 : Int) (a1 : Int) (a2 : Int) : Option (Int) := spec_remainder.l0 k a0 a1 a2 63
theorem spec_remainder.mono_l : ∀ k, (∀ y0 y1 y2 y3, LeO (spec_remainder.l0 k y0 y1 y2 y3) (spec_remainder.l0 (k + 1) y0 y1 y2 y3))
  | 0 => fun _ _ _ _ r h => by simp [spec_remainder.l0] at h
  | k + 1 => by
    have ih0 := spec_remainder.mono_l k
    · intro y0 y1 y2 y3
      unfold spec_remainder.l0
      repeat' first
      | (with_reducible exact ih0 _ _ _ _)
      | (with_reducible exact LeO.refl _)
      | (with_reducible exact LeO.none _)
      | (with_reducible refine LeO.ite ?_ ?_)
      | (with_reducible refine LeO.bind ?_ (fun _ => ?_))
      | exact ih0 _ _ _ _
      | exact LeO.none _
      | refine LeO.ite ?_ ?_
      | refine LeO.bind ?_ (fun _ => ?_)
theorem spec_remainder.mono : ∀ a0 a1 a2 k, LeO (spec_remainder.f k a0 a1 a2) (spec_remainder.f (k + 1) a0 a1 a2) := by
  intro a0 a1 a2 k
  have ih0 := spec_remainder.mono_l k
  unfold spec_remainder.f
  repeat' first
      | (with_reducible exact ih0 _ _ _ _)
      | (with_reducible exact LeO.refl _)
      | (with_reducible exact LeO.none _)
      | (with_reducible refine LeO.ite ?_ ?_)
      | (with_reducible refine LeO.bind ?_ (fun _ => ?_))
      | exact ih0 _ _ _ _
      | exact LeO.none _
      | refine LeO.ite ?_ ?_
      | refine LeO.bind ?_ (fun _ => ?_)
set_option maxHeartbeats 8000000 in
set_option maxRecDepth 100000 in
theorem spec_remainder.calls (k : Nat) (a0 : Int) (a1 : Int) (a2 : Int) (r : Int) (w : World) (h : spec_remainder.f k a0 a1 a2 = some r) :
    Calls Tryd.prog 53 #[.int .u64 a0, .int .u64 a1, .int .i64 a2] w fun e w' => e = .returned (.int .u64 r) ∧ Drawn0 w w' := by
  have H : (spec_remainder.l0 k a0 a1 a2 63) = some r := h
  clear h
  have H' := Aside0.mk H
  clear H
  go_enter Tryd.func53, Tryd.ntmps53
  go_wp2
  try simp only [Act.put, List.setIfInBounds_toArray, List.set_cons_zero, List.set_cons_succ]
  go_loopg [0, 7] k (fun kq v0 v7 w' => ∃ (x0_1 : Int) (x7_1 : Int), v0 = .int .u64 x0_1 ∧ v7 = .int .i64 x7_1 ∧ Aside0 (spec_remainder.l0 kq x0_1 a1 a2 x7_1 = some r) ∧ Aside0 (kq ≤ k) ∧ Drawn0 w w')
  case atStart => exact ⟨(a0), (63), (by first | rfl | (simp; done) | (simp [*]; done)), (by first | rfl | (simp; done) | (simp [*]; done)), H', ⟨Nat.le_refl _⟩, by repeat (first | exact Drawn0.refl _ | apply Drawn0.step)⟩
  case round =>
    clear H'
    try clear p2
    obtain ⟨x0_1, x7_1, rfl, rfl, HA, HK1, ⟨m1, rfl⟩⟩ := hrel
    cases gk with
    | zero => exact absurd HA.out (by simp [spec_remainder.l0])
    | succ k1 =>
      have H := HA.out
      clear HA
      simp only [spec_remainder.l0] at H
      by_cases c4 : x7_1 ≥ a2
      · rw [if_pos c4] at H
        have c4b0 : decide (a2 ≤ x7_1) = true := decide_eq_true c4
        clear c4
        by_cases c5 : 0 ≤ x7_1
        · rw [if_pos c5] at H
          have c5b0 := eq_true c5
          have c5b1 : decide (0 ≤ x7_1) = true := decide_eq_true c5
          clear c5
          obtain ⟨ji6, hji6⟩ : ∃ j_ : Int, (shr .u64 x0_1 x7_1) = j_ := ⟨_, rfl⟩
          replace H : (if (Go.bits .and .u64 (ji6) 1) = 1 then (if 0 ≤ (wrap64 (x7_1 - a2)) then (spec_remainder.l0 k1 (Go.bits .xor .u64 x0_1 (shl .u64 a1 (wrap64 (x7_1 - a2)))) a1 a2 (wrap64 (x7_1 - 1))) else (none)) else (spec_remainder.l0 k1 x0_1 a1 a2 (wrap64 (x7_1 - 1)))) = some r := by first | (rw [hji6] at H; exact H) | (simp only [hji6] at H ⊢; exact H)
          have hji6_ : (x0_1 / 2 ^ min x7_1.toNat 64) = ji6 := hji6
          have hji6z : x7_1 ≤ 64 → (x0_1 / 2 ^ x7_1.toNat) = ji6 := shr_small hji6
          by_cases c7 : (Go.bits .and .u64 (ji6) 1) = 1
          · rw [if_pos c7] at H
            have c7b0 : ((Go.bits .and .u64 (ji6) 1) == 1) = true := beq_iff_eq.mpr c7
            have c7b1 : ((Go.bits .and .u64 (ji6) 1) != 1) = false := bne_eq_false_iff_eq.mpr c7
            clear c7
            obtain ⟨ji8, hji8⟩ : ∃ j_ : Int, (wrap64 (x7_1 - a2)) = j_ := ⟨_, rfl⟩
            replace H : (if 0 ≤ (ji8) then (spec_remainder.l0 k1 (Go.bits .xor .u64 x0_1 (shl .u64 a1 (ji8))) a1 a2 (wrap64 (x7_1 - 1))) else (none)) = some r := by first | (rw [hji8] at H; exact H) | (simp only [hji8] at H ⊢; exact H)
            have hji8w : (IntKind.i64.wrap (x7_1 - a2)) = ji8 := (i64_w _).trans hji8
            by_cases c9 : 0 ≤ (ji8)
            · rw [if_pos c9] at H
              have c9b0 := eq_true c9
              have c9b1 : decide (0 ≤ (ji8)) = true := decide_eq_true c9
              clear c9
              obtain ⟨ji10, hji10⟩ : ∃ j_ : Int, (shl .u64 a1 (ji8)) = j_ := ⟨_, rfl⟩
              replace H : (spec_remainder.l0 k1 (Go.bits .xor .u64 x0_1 (ji10)) a1 a2 (wrap64 (x7_1 - 1))) = some r := by first | (rw [hji10] at H; exact H) | (simp only [hji10] at H ⊢; exact H)
              have hji10_ : (IntKind.u64.wrap (a1 * 2 ^ min (ji8).toNat 64)) = ji10 := hji10
              have hji10z : (ji8) ≤ 64 → (IntKind.u64.wrap (a1 * 2 ^ (ji8).toNat)) = ji10 := shl_small hji10
              have H' := Aside0.mk H
              clear H
              go_wp2
              go_roundg k1
              case measure => have := HK1.out; omega
              case rel => exact ⟨(Go.bits .xor .u64 x0_1 (ji10)), (wrap64 (x7_1 - 1)), (by first | rfl | (simp; done) | (simp only [← hji10] <;> (first | rfl | simp)) | (simp [*]; done)), (by first | rfl | (simp; done) | (simp [*]; done)), H', ⟨by have := HK1.out; omega⟩, by repeat (first | exact Drawn0.refl _ | apply Drawn0.step)⟩
            · rw [if_neg c9] at H
              exact absurd H (by simp)
          · rw [if_neg c7] at H
            have c7b0 : ((Go.bits .and .u64 (ji6) 1) == 1) = false := beq_eq_false_iff_ne.mpr c7
            have c7b1 : ((Go.bits .and .u64 (ji6) 1) != 1) = true := bne_iff_ne.mpr c7
            have H' := Aside0.mk H
            clear H
            go_wp2
            go_roundg k1
            case measure => have := HK1.out; omega
            case rel => exact ⟨(x0_1), (wrap64 (x7_1 - 1)), (by first | rfl | (simp; done) | (simp [*]; done)), (by first | rfl | (simp; done) | (simp [*]; done)), H', ⟨by have := HK1.out; omega⟩, by repeat (first | exact Drawn0.refl _ | apply Drawn0.step)⟩
        · rw [if_neg c5] at H
          exact absurd H (by simp)
      · rw [if_neg c4] at H
        have c4b0 : decide (a2 ≤ x7_1) = false := decide_eq_false c4
        clear c4
        obtain rfl := Option.some.inj H
        go_wp2
        go_ret
        exact ⟨by first | rfl | (simp; done) | (simp [*]; done), by repeat (first | exact Drawn0.refl _ | apply Drawn0.step)⟩
end Go.Proofs.YtpeikjnkbjabpaaDoor.V
