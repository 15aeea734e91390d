-- laid by xprint.py (a program of this session over the kit's print); Lean checks it
import Derived.Test.YtijldedhcjkhiaaX0
import Derived.Test.YtijldedhcjkhiaaX1
import Derived.Test.YtijldedhcjkhiaaX3
import Derived.Test.YtijldedhcjkhiaaX4
namespace Go.Proofs.Ytijldedhcjkhiaa.X
open Go.RowKit Go.Proofs.YtijldedhcjkhiaaW.PrintWords Go.Proofs.YtijldedhcjkhiaaW.PrintLast Go.Proofs.YtijldedhcjkhiaaW.PrintMore
attribute [local go_sem] max2_int min2_int max_two min_two max_three min_three max_four min_four   -- for this text's walks alone
set_option linter.unusedVariables false
set_option linter.unusedSimpArgs false

-- laws_FnChainsInParts
set_option maxHeartbeats 8000000 in
set_option maxRecDepth 100000 in
theorem laws_FnChainsInParts.calls (k : Nat) (a0_0 : Int) (a0_1 : Int) (a0_2 : Int) (a0_3 : Int) (a0_4 : Int) (a0_5 : Int) (A1 : Option Addr) (c1 : Nat) (l1 : List Int) (P2_ : Nat → Prop) (A2 : Option Addr) (c2 : Nat) (l2 : List (List Int)) (P3_ : Nat → Prop) (A3 : Option Addr) (c3 : Nat) (l3 : List (List Int)) (a4 : Int) (r : Bool) (w : World) (hr1 : Kd.C (Kd.int .u8) w A1 l1.length l1) (hc1 : l1.length ≤ c1) (hs2 : Kd.V (Kd.slice 5 (Kd.int .u8)) 25 w w.heap.size (fun k_ => P2_ k_) (.slice A2 l2.length c2) l2) (hs3 : Kd.V (Kd.slice 5 (Kd.int .u8)) 25 w w.heap.size (fun k_ => P3_ k_) (.slice A3 l3.length c3) l3) (h : laws_FnChainsInParts.f k a0_0 a0_1 a0_2 a0_3 a0_4 a0_5 l1 l2 l3 a4 = some r) :
    Calls Try.prog 3 #[.agg #[.int .i64 a0_0, .int .i64 a0_1, .int .i64 a0_2, .int .u64 a0_3, .int .u64 a0_4, .int .u64 a0_5], .slice A1 l1.length c1, .slice A2 l2.length c2, .slice A3 l3.length c3, .int .u64 a4] w fun e w' => e = .returned (.bool r) ∧ Below w.heap.size w w' := by
  have hu24 := Try.underlying24
  have HR1 := Aside0.mk hr1
  have HC1 := Aside0.mk hc1
  clear hr1 hc1
  have HO2 := Aside0.mk (show Kd.V (Kd.slice 5 (Kd.int .u8)) 25 w w.heap.size (fun k_ => ((P2_ k_ ∨ P3_ k_) ∨ w.heap.size ≤ k_)) (.slice A2 l2.length c2) l2 from Kd.V_mono hs2 (fun k_ hk => .inl (.inl hk)))
  have HO3 := Aside0.mk (show Kd.V (Kd.slice 5 (Kd.int .u8)) 25 w w.heap.size (fun k_ => ((P2_ k_ ∨ P3_ k_) ∨ w.heap.size ≤ k_)) (.slice A3 l3.length c3) l3 from Kd.V_mono hs3 (fun k_ hk => .inl (.inr hk)))
  have HB := Aside0.mk (Below.refl w.heap.size w)
  have H : (if (l1.length : Int) > 2147483647 then (laws_FnChainsInParts.j0 k l1 l2 l3 a4 true a0_0 a0_1 a0_2 a0_3 a0_4 a0_5) else ((laws_zzFits2.f k l2).bind fun t207 => (if t207 = true then ((laws_zzFits2.f k l3).bind fun t208 => (laws_FnChainsInParts.j0 k l1 l2 l3 a4 (!t208) a0_0 a0_1 a0_2 a0_3 a0_4 a0_5)) else (laws_FnChainsInParts.j0 k l1 l2 l3 a4 true a0_0 a0_1 a0_2 a0_3 a0_4 a0_5)))) = some r := h
  clear h
  have HC6 := Aside0.mk H
  clear H
  go_enter Try.func3, Try.ntmps3
  go_upto_region 1 with (first | ((with_reducible refine gate_dst (N := 5) rfl ?_); (try (refine gate_guard (by rfl) ?_; dsimp only)); refine box_event ?hg (N := 5) ?hd (cs := #[.int .i64 a0_0, .int .i64 a0_1, .int .i64 a0_2, .int .u64 a0_3, .int .u64 a0_4, .int .u64 a0_5]) (t := 24) ?hr ?_; (case hd => rfl); (case hg => rfl); (case hr => first | (go_simp; done) | (go_simp; rfl)); intro gb206 hg w7 hbox hb; have n0_ := Aside0.mk (Kd.V_below (Kd.V_elderB (by (with_reducible repeat (first | apply Kd.V_alloc | apply Kd.V_drewN | apply Kd.V_drew)); exact HO2.out) gb206 (Nat.le_of_eq hg.symm)) hb); have n1_ := Aside0.mk (Kd.V_below (Kd.V_elderB (by (with_reducible repeat (first | apply Kd.V_alloc | apply Kd.V_drewN | apply Kd.V_drew)); exact HO3.out) gb206 (Nat.le_of_eq hg.symm)) hb); have n2_ := Aside0.mk (below_step (by repeat (first | (with_reducible first | exact HB.out | apply below_alloc | apply pw_below_drewN | apply below_drew1) | exact HB.out)) hb); have n3_ := Aside0.mk (hbox); have n4_ := Aside0.mk ((by rw [hg]; exact (below_size (by repeat (first | (with_reducible first | exact HB.out | apply below_alloc | apply pw_below_drewN | apply below_drew1) | exact HB.out))) : w.heap.size ≤ gb206)); have n5_ := Aside0.mk ((by rw [hg]; exact (below_size (by repeat (first | (with_reducible first | exact HB.out | apply below_alloc | apply pw_below_drewN | apply below_drew1) | exact HB.out))) : w.heap.size ≤ gb206)); clear HO2; clear HO3; clear HB; have HO2 := n0_; have HO3 := n1_; have HB := n2_; have BK206 := n3_; have GW206 := n4_; have GE206 := n5_; clear n0_ n1_ n2_ n3_ n4_ n5_; clear hb hbox hg))
  (try simp only [Act.put, sA_, sB_, sC_])
  go_cut [25] (fun v25 wc => ∃ (kq : Nat) (x25_5 : Bool), v25 = .bool x25_5 ∧ Aside0 (laws_FnChainsInParts.j0 kq l1 l2 l3 a4 x25_5 a0_0 a0_1 a0_2 a0_3 a0_4 a0_5 = some r) ∧ Aside0 (kq ≤ k) ∧ Aside0 (Kd.V (Kd.slice 5 (Kd.int .u8)) 25 wc w.heap.size (fun k_ => ((P2_ k_ ∨ P3_ k_) ∨ w.heap.size ≤ k_) ∧ k_ ≠ gb206) (.slice A2 l2.length c2) l2) ∧ Aside0 (Kd.V (Kd.slice 5 (Kd.int .u8)) 25 wc w.heap.size (fun k_ => ((P2_ k_ ∨ P3_ k_) ∨ w.heap.size ≤ k_) ∧ k_ ≠ gb206) (.slice A3 l3.length c3) l3) ∧ Aside0 (wc.heap[gb206]? = some (.cells #[.int .i64 a0_0, .int .i64 a0_1, .int .i64 a0_2, .int .u64 a0_3, .int .u64 a0_4, .int .u64 a0_5] 24 (0, 0))) ∧ Aside0 (Below w.heap.size w wc))
  case first =>
    have H := HC6.out
    clear HC6
    by_cases c8 : (l1.length : Int) > 2147483647
    · rw [if_pos c8] at H
      have c8b0 : decide (2147483647 < (l1.length : Int)) = true := decide_eq_true c8
      have c8b1 : decide (2147483647 < l1.length) = true := decide_eq_true (by omega)
      clear c8
      (first | rw [c8b0] | (simp only [i64_w, i32_w]; rw [c8b0]) | skip)
      have H' := Aside0.mk H
      clear H
      go_wp2
      go_meet
      case rel => exact ⟨_, (true), (by first | rfl | (simp; done) | (simp [*]; done)), H', ⟨by first | omega | exact Nat.le_refl _⟩, ⟨by (with_reducible repeat (first | apply Kd.V_alloc | apply Kd.V_drewN | apply Kd.V_drew)); exact HO2.out⟩, ⟨by (with_reducible repeat (first | apply Kd.V_alloc | apply Kd.V_drewN | apply Kd.V_drew)); exact HO3.out⟩, ⟨by (with_reducible repeat (first | refine blk_drewN ?_ _ | refine blk_drew ?_ | refine blk_alloc ?_ _)); exact BK206.out⟩, ⟨by repeat (first | (with_reducible first | exact HB.out | apply below_alloc | apply pw_below_drewN | apply below_drew1 | refine below_set ?_ GE206.out) | exact HB.out)⟩⟩
    rw [if_neg c8] at H
    have c8b0 : decide (2147483647 < (l1.length : Int)) = false := decide_eq_false c8
    have c8b1 : decide (2147483647 < l1.length) = false := decide_eq_false (by omega)
    clear c8
    (first | rw [c8b0] | (simp only [i64_w, i32_w]; rw [c8b0]) | skip)
    replace H := Option.bind_eq_some_iff.mp H
    obtain ⟨t207, A90, H⟩ := H
    replace H : (if t207 = true then ((laws_zzFits2.f k l3).bind fun t208 => (laws_FnChainsInParts.j0 k l1 l2 l3 a4 (!t208) a0_0 a0_1 a0_2 a0_3 a0_4 a0_5)) else (laws_FnChainsInParts.j0 k l1 l2 l3 a4 true a0_0 a0_1 a0_2 a0_3 a0_4 a0_5)) = some r := H
    have A9 := Aside0.mk A90
    clear A90
    by_cases c10 : t207 = true
    · subst c10
      have H1 : ((laws_zzFits2.f k l3).bind fun t208 => (laws_FnChainsInParts.j0 k l1 l2 l3 a4 (!t208) a0_0 a0_1 a0_2 a0_3 a0_4 a0_5)) = some r := by rw [if_pos rfl] at H; exact H
      clear H
      have H := H1
      clear H1
      replace H := Option.bind_eq_some_iff.mp H
      obtain ⟨t208, A110, H⟩ := H
      replace H : (laws_FnChainsInParts.j0 k l1 l2 l3 a4 (!t208) a0_0 a0_1 a0_2 a0_3 a0_4 a0_5) = some r := H
      have A11 := Aside0.mk A110
      clear A110
      have H' := Aside0.mk H
      clear H
      go_wp2_with (first | (go_at_call 5; (with_reducible refine (laws_zzFits2.calls k _ _ l2 true _ ?side1 ?side2 A9.out).mono ?_); (case side1 => repeat (first | exact (Kd.V_reads' HO2.out).2.2 | (with_reducible refine Kd.C_alloc ?_ _) | (with_reducible refine Kd.C_drewN ?_ _) | (with_reducible refine Kd.C_drew ?_))); (case side2 => exact (Kd.V_reads' HO2.out).2.1); rintro e w' ⟨rfl, ⟨nd, rfl⟩⟩) | (go_at_call 5; (with_reducible refine (laws_zzFits2.calls k _ _ l3 t208 _ ?side1 ?side2 A11.out).mono ?_); (case side1 => repeat (first | exact (Kd.V_reads' HO3.out).2.2 | (with_reducible refine Kd.C_alloc ?_ _) | (with_reducible refine Kd.C_drewN ?_ _) | (with_reducible refine Kd.C_drew ?_))); (case side2 => exact (Kd.V_reads' HO3.out).2.1); rintro e w' ⟨rfl, ⟨nd, rfl⟩⟩))
      go_meet
      case rel => exact ⟨_, (!t208), (by first | rfl | (simp; done) | (simp [*]; done)), H', ⟨by first | omega | exact Nat.le_refl _⟩, ⟨by (with_reducible repeat (first | apply Kd.V_alloc | apply Kd.V_drewN | apply Kd.V_drew)); exact HO2.out⟩, ⟨by (with_reducible repeat (first | apply Kd.V_alloc | apply Kd.V_drewN | apply Kd.V_drew)); exact HO3.out⟩, ⟨by (with_reducible repeat (first | refine blk_drewN ?_ _ | refine blk_drew ?_ | refine blk_alloc ?_ _)); exact BK206.out⟩, ⟨by repeat (first | (with_reducible first | exact HB.out | apply below_alloc | apply pw_below_drewN | apply below_drew1 | refine below_set ?_ GE206.out) | exact HB.out)⟩⟩
    replace c10 := Bool.eq_false_iff.mpr c10
    subst c10
    have H1 : (laws_FnChainsInParts.j0 k l1 l2 l3 a4 true a0_0 a0_1 a0_2 a0_3 a0_4 a0_5) = some r := by rw [if_neg (show ¬ (false = true) by decide)] at H; exact H
    clear H
    have H := H1
    clear H1
    have H' := Aside0.mk H
    clear H
    go_wp2_with (first | (go_at_call 5; (with_reducible refine (laws_zzFits2.calls k _ _ l2 false _ ?side1 ?side2 A9.out).mono ?_); (case side1 => repeat (first | exact (Kd.V_reads' HO2.out).2.2 | (with_reducible refine Kd.C_alloc ?_ _) | (with_reducible refine Kd.C_drewN ?_ _) | (with_reducible refine Kd.C_drew ?_))); (case side2 => exact (Kd.V_reads' HO2.out).2.1); rintro e w' ⟨rfl, ⟨nd, rfl⟩⟩))
    go_meet
    case rel => exact ⟨_, (true), (by first | rfl | (simp; done) | (simp [*]; done)), H', ⟨by first | omega | exact Nat.le_refl _⟩, ⟨by (with_reducible repeat (first | apply Kd.V_alloc | apply Kd.V_drewN | apply Kd.V_drew)); exact HO2.out⟩, ⟨by (with_reducible repeat (first | apply Kd.V_alloc | apply Kd.V_drewN | apply Kd.V_drew)); exact HO3.out⟩, ⟨by (with_reducible repeat (first | refine blk_drewN ?_ _ | refine blk_drew ?_ | refine blk_alloc ?_ _)); exact BK206.out⟩, ⟨by repeat (first | (with_reducible first | exact HB.out | apply below_alloc | apply pw_below_drewN | apply below_drew1 | refine below_set ?_ GE206.out) | exact HB.out)⟩⟩
  clear HC6
  try clear c1
  try clear c2
  try clear p2
  try clear c3
  try clear c8
  try clear c8b0
  try clear c8b1
  try clear c10
  obtain ⟨kq, x25_5, rfl, HA, HJ5, HO_2, HO_3, BK206, HB⟩ := hcut
  obtain _ | kj5 := kq
  · exact absurd HA.out (by simp [laws_FnChainsInParts.j0])
  have H := HA.out
  clear HA
  simp only [laws_FnChainsInParts.j0] at H
  have HC12 := Aside0.mk H
  clear H
  go_upto_if 25 with (fail)
  go_cut [] (fun wc => ∃ (kq : Nat), Aside0 (laws_FnChainsInParts.j1 kq l1 l2 l3 a4 a0_0 a0_1 a0_2 a0_3 a0_4 a0_5 = some r) ∧ Aside0 (kq ≤ kj5) ∧ Aside0 (Kd.V (Kd.slice 5 (Kd.int .u8)) 25 wc w.heap.size (fun k_ => ((P2_ k_ ∨ P3_ k_) ∨ w.heap.size ≤ k_) ∧ k_ ≠ gb206) (.slice A2 l2.length c2) l2) ∧ Aside0 (Kd.V (Kd.slice 5 (Kd.int .u8)) 25 wc w.heap.size (fun k_ => ((P2_ k_ ∨ P3_ k_) ∨ w.heap.size ≤ k_) ∧ k_ ≠ gb206) (.slice A3 l3.length c3) l3) ∧ Aside0 (wc.heap[gb206]? = some (.cells #[.int .i64 a0_0, .int .i64 a0_1, .int .i64 a0_2, .int .u64 a0_3, .int .u64 a0_4, .int .u64 a0_5] 24 (0, 0))) ∧ Aside0 (Below w.heap.size w wc))
  case first =>
    have H := HC12.out
    clear HC12
    by_cases c13 : x25_5 = true
    · subst c13
      have H1 : (some true) = some r := by rw [if_pos rfl] at H; exact H
      clear H
      have H := H1
      clear H1
      obtain rfl := Option.some.inj H
      go_wp2
      go_ret
      exact ⟨by first | rfl | (simp [errW_none, errW_some] <;> rfl) | (simp [*, errW_none, errW_some] <;> rfl), by repeat (first | (with_reducible first | exact HB.out | apply below_alloc | apply pw_below_drewN | apply below_drew1 | refine below_set ?_ GE206.out) | exact HB.out)⟩
    replace c13 := Bool.eq_false_iff.mpr c13
    subst c13
    have H1 : (laws_FnChainsInParts.j1 kj5 l1 l2 l3 a4 a0_0 a0_1 a0_2 a0_3 a0_4 a0_5) = some r := by rw [if_neg (show ¬ (false = true) by decide)] at H; exact H
    clear H
    have H := H1
    clear H1
    have H' := Aside0.mk H
    clear H
    go_wp2
    go_meet
    case rel => exact ⟨_, H', ⟨by have := HJ5.out; first | omega | exact Nat.le_refl _⟩, ⟨by (with_reducible repeat (first | apply Kd.V_alloc | apply Kd.V_drewN | apply Kd.V_drew)); exact HO_2.out⟩, ⟨by (with_reducible repeat (first | apply Kd.V_alloc | apply Kd.V_drewN | apply Kd.V_drew)); exact HO_3.out⟩, ⟨by (with_reducible repeat (first | refine blk_drewN ?_ _ | refine blk_drew ?_ | refine blk_alloc ?_ _)); exact BK206.out⟩, ⟨by repeat (first | (with_reducible first | exact HB.out | apply below_alloc | apply pw_below_drewN | apply below_drew1 | refine below_set ?_ GE206.out) | exact HB.out)⟩⟩
  clear HC12
  try clear c1
  try clear c2
  try clear p2
  try clear c3
  try clear c8
  try clear c8b0
  try clear c8b1
  try clear c10
  try clear c13
  try clear p2
  obtain ⟨kq, HA, HJ11, HO_2, HO_3, BK206, HB⟩ := hcut
  obtain _ | kj11 := kq
  · exact absurd HA.out (by simp [laws_FnChainsInParts.j1])
  have H := HA.out
  clear HA
  simp only [laws_FnChainsInParts.j1] at H
  obtain ⟨y209, hy209⟩ : ∃ y_ : List (List Int), y_ = (([] : List (List Int))) := ⟨_, rfl⟩
  replace H : (if y209.length + l2.length < 5864062014805 then ((some (y209 ++ l2 : List (List Int))).bind fun y212 => (if y212.length + l3.length < 5864062014805 then ((some (y212 ++ l3 : List (List Int))).bind fun y215 => ((laws_logSmall.f kj11 y215).bind fun t218 => (if t218 = true then (if (y215.length : Int) > 60 then (laws_FnChainsInParts.j2 kj11 l1 l2 l3 a4 y215 true a0_0 a0_1 a0_2 a0_3 a0_4 a0_5) else (laws_FnChainsInParts.j2 kj11 l1 l2 l3 a4 y215 (decide ((l1.length : Int) > 5000)) a0_0 a0_1 a0_2 a0_3 a0_4 a0_5)) else (laws_FnChainsInParts.j2 kj11 l1 l2 l3 a4 y215 true a0_0 a0_1 a0_2 a0_3 a0_4 a0_5)))) else (none))) else (none)) = some r := by first | (rw [hy209]; with_reducible exact H) | (have H2_ := (Option.bind_some _ _).symm.trans H; rw [hy209]; with_reducible exact H2_) | (have H2_ := (Option.bind_some _ _).symm.trans H; with_reducible exact H2_) | with_reducible exact H | (rw [hy209]; exact H) | exact H
  have Ny209 := Aside0.mk hy209
  clear hy209
  by_cases c14 : y209.length + l2.length < 5864062014805
  · rw [if_pos c14] at H
    have LMc14 := Aside0.mk c14
    clear c14
    obtain ⟨y212, hy212⟩ : ∃ y_ : List (List Int), y_ = (y209 ++ l2) := ⟨_, rfl⟩
    replace H : (if y212.length + l3.length < 5864062014805 then ((some (y212 ++ l3 : List (List Int))).bind fun y215 => ((laws_logSmall.f kj11 y215).bind fun t218 => (if t218 = true then (if (y215.length : Int) > 60 then (laws_FnChainsInParts.j2 kj11 l1 l2 l3 a4 y215 true a0_0 a0_1 a0_2 a0_3 a0_4 a0_5) else (laws_FnChainsInParts.j2 kj11 l1 l2 l3 a4 y215 (decide ((l1.length : Int) > 5000)) a0_0 a0_1 a0_2 a0_3 a0_4 a0_5)) else (laws_FnChainsInParts.j2 kj11 l1 l2 l3 a4 y215 true a0_0 a0_1 a0_2 a0_3 a0_4 a0_5)))) else (none)) = some r := by first | (rw [hy212]; with_reducible exact H) | (have H2_ := (Option.bind_some _ _).symm.trans H; rw [hy212]; with_reducible exact H2_) | (have H2_ := (Option.bind_some _ _).symm.trans H; with_reducible exact H2_) | with_reducible exact H | (rw [hy212]; exact H) | exact H
    have Ny212 := Aside0.mk hy212
    clear hy212
    by_cases c15 : y212.length + l3.length < 5864062014805
    · rw [if_pos c15] at H
      have LMc15 := Aside0.mk c15
      clear c15
      obtain ⟨y215, hy215⟩ : ∃ y_ : List (List Int), y_ = (y212 ++ l3) := ⟨_, rfl⟩
      replace H : ((laws_logSmall.f kj11 y215).bind fun t218 => (if t218 = true then (if (y215.length : Int) > 60 then (laws_FnChainsInParts.j2 kj11 l1 l2 l3 a4 y215 true a0_0 a0_1 a0_2 a0_3 a0_4 a0_5) else (laws_FnChainsInParts.j2 kj11 l1 l2 l3 a4 y215 (decide ((l1.length : Int) > 5000)) a0_0 a0_1 a0_2 a0_3 a0_4 a0_5)) else (laws_FnChainsInParts.j2 kj11 l1 l2 l3 a4 y215 true a0_0 a0_1 a0_2 a0_3 a0_4 a0_5))) = some r := by first | (rw [hy215]; with_reducible exact H) | (have H2_ := (Option.bind_some _ _).symm.trans H; rw [hy215]; with_reducible exact H2_) | (have H2_ := (Option.bind_some _ _).symm.trans H; with_reducible exact H2_) | with_reducible exact H | (rw [hy215]; exact H) | exact H
      have Ny215 := Aside0.mk hy215
      clear hy215
      have HC16 := Aside0.mk H
      clear H
      go_upto_region 4 with (first | ((with_reducible refine gate_dst (N := 26) rfl ?_); (try (refine gate_guard (by rfl) ?_; dsimp only)); refine Kd.N_lit (Kd.slice 5 (Kd.int .u8)) _ 25 ?hg (N' := 26) ?hd (xs := ([] : List (List Int))) (inner := []) (ok := (fun k_ => ((P2_ k_ ∨ P3_ k_) ∨ w.heap.size ≤ k_) ∧ k_ ≠ gb206)) (okp := (fun k_ => ((P2_ k_ ∨ P3_ k_) ∨ w.heap.size ≤ k_) ∧ k_ ≠ gb206)) ?hr ?hp (fun _ hk => hk) ((show ∀ k_, wc.heap.size ≤ k_ → (fun k_ => ((P2_ k_ ∨ P3_ k_) ∨ w.heap.size ≤ k_) ∧ k_ ≠ gb206) k_ from fun k_ hk => ⟨(.inr (Nat.le_trans (below_size (by repeat (first | (with_reducible first | exact HB.out | apply below_alloc | apply pw_below_drewN | apply below_drew1 | refine below_set ?_ GE206.out) | exact HB.out))) hk)), Kd.freshB (g := gb206) (o := .cells #[.int .i64 a0_0, .int .i64 a0_1, .int .i64 a0_2, .int .u64 a0_3, .int .u64 a0_4, .int .u64 a0_5] 24 (0, 0)) (by (with_reducible repeat (first | refine blk_drewN ?_ _ | refine blk_drew ?_ | refine blk_alloc ?_ _)); exact BK206.out) k_ hk⟩) _ (Nat.le_refl _)) (Below.refl _ _) (Nat.le_refl _) (by simp) ?_; (case hd => rfl); (case hg => rfl); (case hr => first | (go_simp; done) | (go_simp; rfl)); (case hp => exact (Reps.none _ _)); intro v210 w17 ho18 hb hg_ hnew_; clear hg_ hnew_; (first | rw [← Ny209.out] at ho18 | (simp only [Int.reduceToNat] at ho18; rw [← Ny209.out] at ho18)); have n0_ := Aside0.mk (Kd.V_elder' (by (with_reducible repeat (first | apply Kd.V_alloc | apply Kd.V_drewN | apply Kd.V_drew)); exact HO_2.out) (Kd.N_base ho18) hb); have n1_ := Aside0.mk (Kd.V_elder' (by (with_reducible repeat (first | apply Kd.V_alloc | apply Kd.V_drewN | apply Kd.V_drew)); exact HO_3.out) (Kd.N_base ho18) hb); have n2_ := Aside0.mk (Kd.N_lower ho18 (below_size (by repeat (first | (with_reducible first | exact HB.out | apply below_alloc | apply pw_below_drewN | apply below_drew1 | refine below_set ?_ GE206.out) | exact HB.out)))); have n3_ := Aside0.mk (blk_below (g := gb206) (o := .cells #[.int .i64 a0_0, .int .i64 a0_1, .int .i64 a0_2, .int .u64 a0_3, .int .u64 a0_4, .int .u64 a0_5] 24 (0, 0)) (by (with_reducible repeat (first | refine blk_drewN ?_ _ | refine blk_drew ?_ | refine blk_alloc ?_ _)); exact BK206.out) hb); have n4_ := Aside0.mk (below_step (by repeat (first | (with_reducible first | exact HB.out | apply below_alloc | apply pw_below_drewN | apply below_drew1 | refine below_set ?_ GE206.out) | exact HB.out)) hb); clear HO_2; clear HO_3; clear BK206; clear HB; have HO_2 := n0_; have HO_3 := n1_; have HO211 := n2_; have BK206 := n3_; have HB := n4_; clear n0_ n1_ n2_ n3_ n4_; clear hb ho18) | ((with_reducible refine gate_builtin (b := .append) (xs := #[.tmp 26, .tmp 27]) rfl ?_); (try (refine gate_guard (by rfl) ?_; dsimp only)); at_builtin; refine Kd.N_append_rows (Kd.slice 5 (Kd.int .u8)) (w0 := w) w.heap.size rfl (.tmp 26) (.tmp 27) 26 25 (.slice none 0 0) 24 rfl Try.underlying26 info25 rfl (by decide) (by omega) v210 y209 l2 _ _ _ (fun k_ => ((P2_ k_ ∨ P3_ k_) ∨ w.heap.size ≤ k_) ∧ k_ ≠ gb206) (fun k_ => ((fun k_ => ((P2_ k_ ∨ P3_ k_) ∨ w.heap.size ≤ k_) ∧ k_ ≠ gb206)) k_ ∧ some k_ ≠ (v210 : Value).ownBlock) rfl rfl ?aO ?aR (fun _ hk => hk) ?aF ?aB ?aS ?aL ?_; (case aR => exact (by skip; exact Kd.V_F (Kd.V_mono (ok' := (fun k_ => ((fun k_ => ((P2_ k_ ∨ P3_ k_) ∨ w.heap.size ≤ k_) ∧ k_ ≠ gb206)) k_ ∧ some k_ ≠ (v210 : Value).ownBlock)) (HO_2.out) (fun k_ hk => ⟨⟨hk.1.1, hk.1.2⟩, hk.2⟩)))); (case aB => exact (by repeat (first | (with_reducible first | exact HB.out | apply below_alloc | apply pw_below_drewN | apply below_drew1 | refine below_set ?_ GE206.out) | exact HB.out))); (case aF => exact (fun k_ hk => ⟨(.inr (Nat.le_trans (below_size (by repeat (first | (with_reducible first | exact HB.out | apply below_alloc | apply pw_below_drewN | apply below_drew1 | refine below_set ?_ GE206.out) | exact HB.out))) hk)), Kd.freshB (g := gb206) (o := .cells #[.int .i64 a0_0, .int .i64 a0_1, .int .i64 a0_2, .int .u64 a0_3, .int .u64 a0_4, .int .u64 a0_5] 24 (0, 0)) (by (with_reducible repeat (first | refine blk_drewN ?_ _ | refine blk_drew ?_ | refine blk_alloc ?_ _)); exact BK206.out) k_ hk⟩)); (case aO => exact (by (with_reducible repeat (first | apply Kd.N_alloc | apply Kd.N_drewN | apply Kd.N_drew)); exact HO211.out)); (case aS => exact (below_size (by repeat (first | (with_reducible first | exact HB.out | apply below_alloc | apply pw_below_drewN | apply below_drew1 | refine below_set ?_ GE206.out) | exact HB.out)))); (case aL => have := LMc14.out; omega); intro v213 w19 ho hb hg hat; rw [← Ny212.out] at ho; have n0_ := Aside0.mk (Kd.V_afterv (ok := (fun k_ => ((P2_ k_ ∨ P3_ k_) ∨ w.heap.size ≤ k_) ∧ k_ ≠ gb206)) (by (with_reducible repeat (first | apply Kd.V_alloc | apply Kd.V_drewN | apply Kd.V_drew)); exact HO_2.out) hg hat); have n1_ := Aside0.mk (Kd.V_afterv (ok := (fun k_ => ((P2_ k_ ∨ P3_ k_) ∨ w.heap.size ≤ k_) ∧ k_ ≠ gb206)) (by (with_reducible repeat (first | apply Kd.V_alloc | apply Kd.V_drewN | apply Kd.V_drew)); exact HO_3.out) hg hat); have n2_ := Aside0.mk (blk_grown (g := gb206) (o := .cells #[.int .i64 a0_0, .int .i64 a0_1, .int .i64 a0_2, .int .u64 a0_3, .int .u64 a0_4, .int .u64 a0_5] 24 (0, 0)) (by (with_reducible repeat (first | refine blk_drewN ?_ _ | refine blk_drew ?_ | refine blk_alloc ?_ _)); exact BK206.out) hg (Kd.N_ne HO211.out BK206.out (by decide))); have n3_ := Aside0.mk (hb); have n4_ := Aside0.mk (ho); clear HO_2; clear HO_3; clear BK206; clear HB; clear HO211; have HO_2 := n0_; have HO_3 := n1_; have BK206 := n2_; have HB := n3_; have HO214 := n4_; clear n0_ n1_ n2_ n3_ n4_; clear ho hb hg hat) | ((with_reducible refine gate_builtin (b := .append) (xs := #[.tmp 28, .tmp 29]) rfl ?_); (try (refine gate_guard (by rfl) ?_; dsimp only)); at_builtin; refine Kd.N_append_rows (Kd.slice 5 (Kd.int .u8)) (w0 := w) w.heap.size rfl (.tmp 28) (.tmp 29) 26 25 (.slice none 0 0) 24 rfl Try.underlying26 info25 rfl (by decide) (by omega) v213 y212 l3 _ _ _ (fun k_ => ((P2_ k_ ∨ P3_ k_) ∨ w.heap.size ≤ k_) ∧ k_ ≠ gb206) (fun k_ => ((fun k_ => ((P2_ k_ ∨ P3_ k_) ∨ w.heap.size ≤ k_) ∧ k_ ≠ gb206)) k_ ∧ some k_ ≠ (v213 : Value).ownBlock) rfl rfl ?aO ?aR (fun _ hk => hk) ?aF ?aB ?aS ?aL ?_; (case aR => exact (by skip; exact Kd.V_F (Kd.V_mono (ok' := (fun k_ => ((fun k_ => ((P2_ k_ ∨ P3_ k_) ∨ w.heap.size ≤ k_) ∧ k_ ≠ gb206)) k_ ∧ some k_ ≠ (v213 : Value).ownBlock)) (HO_3.out) (fun k_ hk => ⟨⟨hk.1.1, hk.1.2⟩, hk.2⟩)))); (case aB => exact (by repeat (first | (with_reducible first | exact HB.out | apply below_alloc | apply pw_below_drewN | apply below_drew1 | refine below_set ?_ GE206.out) | exact HB.out))); (case aF => exact (fun k_ hk => ⟨(.inr (Nat.le_trans (below_size (by repeat (first | (with_reducible first | exact HB.out | apply below_alloc | apply pw_below_drewN | apply below_drew1 | refine below_set ?_ GE206.out) | exact HB.out))) hk)), Kd.freshB (g := gb206) (o := .cells #[.int .i64 a0_0, .int .i64 a0_1, .int .i64 a0_2, .int .u64 a0_3, .int .u64 a0_4, .int .u64 a0_5] 24 (0, 0)) (by (with_reducible repeat (first | refine blk_drewN ?_ _ | refine blk_drew ?_ | refine blk_alloc ?_ _)); exact BK206.out) k_ hk⟩)); (case aO => exact (by (with_reducible repeat (first | apply Kd.N_alloc | apply Kd.N_drewN | apply Kd.N_drew)); exact HO214.out)); (case aS => exact (below_size (by repeat (first | (with_reducible first | exact HB.out | apply below_alloc | apply pw_below_drewN | apply below_drew1 | refine below_set ?_ GE206.out) | exact HB.out)))); (case aL => have := LMc15.out; omega); intro v216 w20 ho hb hg hat; rw [← Ny215.out] at ho; have n0_ := Aside0.mk (Kd.V_afterv (ok := (fun k_ => ((P2_ k_ ∨ P3_ k_) ∨ w.heap.size ≤ k_) ∧ k_ ≠ gb206)) (by (with_reducible repeat (first | apply Kd.V_alloc | apply Kd.V_drewN | apply Kd.V_drew)); exact HO_2.out) hg hat); have n1_ := Aside0.mk (Kd.V_afterv (ok := (fun k_ => ((P2_ k_ ∨ P3_ k_) ∨ w.heap.size ≤ k_) ∧ k_ ≠ gb206)) (by (with_reducible repeat (first | apply Kd.V_alloc | apply Kd.V_drewN | apply Kd.V_drew)); exact HO_3.out) hg hat); have n2_ := Aside0.mk (blk_grown (g := gb206) (o := .cells #[.int .i64 a0_0, .int .i64 a0_1, .int .i64 a0_2, .int .u64 a0_3, .int .u64 a0_4, .int .u64 a0_5] 24 (0, 0)) (by (with_reducible repeat (first | refine blk_drewN ?_ _ | refine blk_drew ?_ | refine blk_alloc ?_ _)); exact BK206.out) hg (Kd.N_ne HO214.out BK206.out (by decide))); have n3_ := Aside0.mk (hb); have n4_ := Aside0.mk (ho); clear HO_2; clear HO_3; clear BK206; clear HB; clear HO214; have HO_2 := n0_; have HO_3 := n1_; have BK206 := n2_; have HB := n3_; have HO217 := n4_; clear n0_ n1_ n2_ n3_ n4_; clear ho hb hg hat))
      (try simp only [Act.put, sA_, sB_, sC_])
      go_cut [43] (fun v43 wc => ∃ (kq : Nat) (x43_15 : Bool), v43 = .bool x43_15 ∧ Aside0 (laws_FnChainsInParts.j2 kq l1 l2 l3 a4 y215 x43_15 a0_0 a0_1 a0_2 a0_3 a0_4 a0_5 = some r) ∧ Aside0 (kq ≤ kj11) ∧ Aside0 (Kd.V (Kd.slice 5 (Kd.int .u8)) 25 wc w.heap.size (fun k_ => ((P2_ k_ ∨ P3_ k_) ∨ w.heap.size ≤ k_) ∧ some k_ ≠ (v216 : Value).ownBlock ∧ k_ ≠ gb206) (.slice A2 l2.length c2) l2) ∧ Aside0 (Kd.V (Kd.slice 5 (Kd.int .u8)) 25 wc w.heap.size (fun k_ => ((P2_ k_ ∨ P3_ k_) ∨ w.heap.size ≤ k_) ∧ some k_ ≠ (v216 : Value).ownBlock ∧ k_ ≠ gb206) (.slice A3 l3.length c3) l3) ∧ Aside0 (Kd.N (Kd.slice 5 (Kd.int .u8)) 25 wc w.heap.size (fun k_ => ((P2_ k_ ∨ P3_ k_) ∨ w.heap.size ≤ k_) ∧ k_ ≠ gb206) v216 y215) ∧ Aside0 (wc.heap[gb206]? = some (.cells #[.int .i64 a0_0, .int .i64 a0_1, .int .i64 a0_2, .int .u64 a0_3, .int .u64 a0_4, .int .u64 a0_5] 24 (0, 0))) ∧ Aside0 (Below w.heap.size w wc))
      case first =>
        have H := HC16.out
        clear HC16
        replace H := Option.bind_eq_some_iff.mp H
        obtain ⟨t218, A210, H⟩ := H
        replace H : (if t218 = true then (if (y215.length : Int) > 60 then (laws_FnChainsInParts.j2 kj11 l1 l2 l3 a4 y215 true a0_0 a0_1 a0_2 a0_3 a0_4 a0_5) else (laws_FnChainsInParts.j2 kj11 l1 l2 l3 a4 y215 (decide ((l1.length : Int) > 5000)) a0_0 a0_1 a0_2 a0_3 a0_4 a0_5)) else (laws_FnChainsInParts.j2 kj11 l1 l2 l3 a4 y215 true a0_0 a0_1 a0_2 a0_3 a0_4 a0_5)) = some r := H
        have A21 := Aside0.mk A210
        clear A210
        by_cases c22 : t218 = true
        · subst c22
          have H1 : (if (y215.length : Int) > 60 then (laws_FnChainsInParts.j2 kj11 l1 l2 l3 a4 y215 true a0_0 a0_1 a0_2 a0_3 a0_4 a0_5) else (laws_FnChainsInParts.j2 kj11 l1 l2 l3 a4 y215 (decide ((l1.length : Int) > 5000)) a0_0 a0_1 a0_2 a0_3 a0_4 a0_5)) = some r := by rw [if_pos rfl] at H; exact H
          clear H
          have H := H1
          clear H1
          by_cases c23 : (y215.length : Int) > 60
          · rw [if_pos c23] at H
            have c23b0 : decide (60 < (y215.length : Int)) = true := decide_eq_true c23
            have c23b1 : decide (60 < y215.length) = true := decide_eq_true (by omega)
            clear c23
            (first | rw [c23b0] | (simp only [i64_w, i32_w]; rw [c23b0]) | skip)
            have H' := Aside0.mk H
            clear H
            obtain ⟨Ao24, co24, eo24⟩ := Kd.N_slice HO217.out
            subst eo24
            go_wp2_with (first | ((with_reducible refine gate_callee (f := 6) rfl ?_); refine goesL_ (some 32) rfl rfl Try.func6 (by kernel_rfl) rfl #[.slice Ao24 y215.length co24] rfl (by (try simp only [List.map_toArray, List.map_cons, List.map_nil]); first | done | rfl | (simp only [List.length_drop, List.length_take]; rfl)) ?_; (with_reducible refine (laws_logSmall.calls kj11 _ _ y215 true _ ?side1 ?side2 A21.out).mono ?_); (case side1 => repeat (first | exact (Kd.N_reads' HO217.out).2.2 | (with_reducible refine Kd.C_alloc ?_ _) | (with_reducible refine Kd.C_drewN ?_ _) | (with_reducible refine Kd.C_drew ?_))); (case side2 => exact (Kd.N_reads' HO217.out).2.1); rintro e w' ⟨rfl, ⟨nd, rfl⟩⟩; refine ⟨_, rfl, ?_⟩))
            go_meet
            case rel => exact ⟨_, (true), (by first | rfl | (simp; done) | (simp [*]; done)), H', ⟨by have := HJ5.out; have := HJ11.out; first | omega | exact Nat.le_refl _⟩, ⟨by (with_reducible repeat (first | apply Kd.V_alloc | apply Kd.V_drewN | apply Kd.V_drew)); exact Kd.V_mono HO_2.out (fun _ hk => ⟨hk.1.1, ⟨hk.2, hk.1.2⟩⟩)⟩, ⟨by (with_reducible repeat (first | apply Kd.V_alloc | apply Kd.V_drewN | apply Kd.V_drew)); exact Kd.V_mono HO_3.out (fun _ hk => ⟨hk.1.1, ⟨hk.2, hk.1.2⟩⟩)⟩, ⟨by (with_reducible repeat (first | apply Kd.N_alloc | apply Kd.N_drewN | apply Kd.N_drew)); exact HO217.out⟩, ⟨by (with_reducible repeat (first | refine blk_drewN ?_ _ | refine blk_drew ?_ | refine blk_alloc ?_ _)); exact BK206.out⟩, ⟨by repeat (first | (with_reducible first | exact HB.out | apply below_alloc | apply pw_below_drewN | apply below_drew1 | refine below_set ?_ GE206.out) | exact HB.out)⟩⟩
          rw [if_neg c23] at H
          have c23b0 : decide (60 < (y215.length : Int)) = false := decide_eq_false c23
          have c23b1 : decide (60 < y215.length) = false := decide_eq_false (by omega)
          clear c23
          (first | rw [c23b0] | (simp only [i64_w, i32_w]; rw [c23b0]) | skip)
          have H' := Aside0.mk H
          clear H
          obtain ⟨Ao25, co25, eo25⟩ := Kd.N_slice HO217.out
          subst eo25
          go_wp2_with (first | ((with_reducible refine gate_callee (f := 6) rfl ?_); refine goesL_ (some 32) rfl rfl Try.func6 (by kernel_rfl) rfl #[.slice Ao25 y215.length co25] rfl (by (try simp only [List.map_toArray, List.map_cons, List.map_nil]); first | done | rfl | (simp only [List.length_drop, List.length_take]; rfl)) ?_; (with_reducible refine (laws_logSmall.calls kj11 _ _ y215 true _ ?side1 ?side2 A21.out).mono ?_); (case side1 => repeat (first | exact (Kd.N_reads' HO217.out).2.2 | (with_reducible refine Kd.C_alloc ?_ _) | (with_reducible refine Kd.C_drewN ?_ _) | (with_reducible refine Kd.C_drew ?_))); (case side2 => exact (Kd.N_reads' HO217.out).2.1); rintro e w' ⟨rfl, ⟨nd, rfl⟩⟩; refine ⟨_, rfl, ?_⟩))
          go_meet
          case rel => exact ⟨_, (decide ((l1.length : Int) > 5000)), (by first | rfl | (simp; done) | (simp [*]; done)), H', ⟨by have := HJ5.out; have := HJ11.out; first | omega | exact Nat.le_refl _⟩, ⟨by (with_reducible repeat (first | apply Kd.V_alloc | apply Kd.V_drewN | apply Kd.V_drew)); exact Kd.V_mono HO_2.out (fun _ hk => ⟨hk.1.1, ⟨hk.2, hk.1.2⟩⟩)⟩, ⟨by (with_reducible repeat (first | apply Kd.V_alloc | apply Kd.V_drewN | apply Kd.V_drew)); exact Kd.V_mono HO_3.out (fun _ hk => ⟨hk.1.1, ⟨hk.2, hk.1.2⟩⟩)⟩, ⟨by (with_reducible repeat (first | apply Kd.N_alloc | apply Kd.N_drewN | apply Kd.N_drew)); exact HO217.out⟩, ⟨by (with_reducible repeat (first | refine blk_drewN ?_ _ | refine blk_drew ?_ | refine blk_alloc ?_ _)); exact BK206.out⟩, ⟨by repeat (first | (with_reducible first | exact HB.out | apply below_alloc | apply pw_below_drewN | apply below_drew1 | refine below_set ?_ GE206.out) | exact HB.out)⟩⟩
        replace c22 := Bool.eq_false_iff.mpr c22
        subst c22
        have H1 : (laws_FnChainsInParts.j2 kj11 l1 l2 l3 a4 y215 true a0_0 a0_1 a0_2 a0_3 a0_4 a0_5) = some r := by rw [if_neg (show ¬ (false = true) by decide)] at H; exact H
        clear H
        have H := H1
        clear H1
        have H' := Aside0.mk H
        clear H
        obtain ⟨Ao26, co26, eo26⟩ := Kd.N_slice HO217.out
        subst eo26
        go_wp2_with (first | ((with_reducible refine gate_callee (f := 6) rfl ?_); refine goesL_ (some 32) rfl rfl Try.func6 (by kernel_rfl) rfl #[.slice Ao26 y215.length co26] rfl (by (try simp only [List.map_toArray, List.map_cons, List.map_nil]); first | done | rfl | (simp only [List.length_drop, List.length_take]; rfl)) ?_; (with_reducible refine (laws_logSmall.calls kj11 _ _ y215 false _ ?side1 ?side2 A21.out).mono ?_); (case side1 => repeat (first | exact (Kd.N_reads' HO217.out).2.2 | (with_reducible refine Kd.C_alloc ?_ _) | (with_reducible refine Kd.C_drewN ?_ _) | (with_reducible refine Kd.C_drew ?_))); (case side2 => exact (Kd.N_reads' HO217.out).2.1); rintro e w' ⟨rfl, ⟨nd, rfl⟩⟩; refine ⟨_, rfl, ?_⟩))
        go_meet
        case rel => exact ⟨_, (true), (by first | rfl | (simp; done) | (simp [*]; done)), H', ⟨by have := HJ5.out; have := HJ11.out; first | omega | exact Nat.le_refl _⟩, ⟨by (with_reducible repeat (first | apply Kd.V_alloc | apply Kd.V_drewN | apply Kd.V_drew)); exact Kd.V_mono HO_2.out (fun _ hk => ⟨hk.1.1, ⟨hk.2, hk.1.2⟩⟩)⟩, ⟨by (with_reducible repeat (first | apply Kd.V_alloc | apply Kd.V_drewN | apply Kd.V_drew)); exact Kd.V_mono HO_3.out (fun _ hk => ⟨hk.1.1, ⟨hk.2, hk.1.2⟩⟩)⟩, ⟨by (with_reducible repeat (first | apply Kd.N_alloc | apply Kd.N_drewN | apply Kd.N_drew)); exact HO217.out⟩, ⟨by (with_reducible repeat (first | refine blk_drewN ?_ _ | refine blk_drew ?_ | refine blk_alloc ?_ _)); exact BK206.out⟩, ⟨by repeat (first | (with_reducible first | exact HB.out | apply below_alloc | apply pw_below_drewN | apply below_drew1 | refine below_set ?_ GE206.out) | exact HB.out)⟩⟩
      clear HC16
      try clear c1
      try clear c2
      try clear p2
      try clear c3
      try clear c6
      try clear c8
      try clear c8b0
      try clear c8b1
      try clear c10
      try clear c13
      try clear c14
      try clear c15
      try clear c22
      try clear c23
      try clear c23b0
      try clear c23b1
      try clear p2
      obtain ⟨kq, x43_15, rfl, HA, HJ15, HO_2, HO_3, HO_11, BK206, HB⟩ := hcut
      obtain _ | kj15 := kq
      · exact absurd HA.out (by simp [laws_FnChainsInParts.j2])
      have H := HA.out
      clear HA
      simp only [laws_FnChainsInParts.j2] at H
      have HC27 := Aside0.mk H
      clear H
      go_upto_if 43 with (fail)
      go_cut [] (fun wc => ∃ (kq : Nat), Aside0 (laws_FnChainsInParts.j3 kq l1 l2 l3 a4 y215 a0_0 a0_1 a0_2 a0_3 a0_4 a0_5 = some r) ∧ Aside0 (kq ≤ kj15) ∧ Aside0 (Kd.V (Kd.slice 5 (Kd.int .u8)) 25 wc w.heap.size (fun k_ => ((P2_ k_ ∨ P3_ k_) ∨ w.heap.size ≤ k_) ∧ some k_ ≠ (v216 : Value).ownBlock ∧ k_ ≠ gb206) (.slice A2 l2.length c2) l2) ∧ Aside0 (Kd.V (Kd.slice 5 (Kd.int .u8)) 25 wc w.heap.size (fun k_ => ((P2_ k_ ∨ P3_ k_) ∨ w.heap.size ≤ k_) ∧ some k_ ≠ (v216 : Value).ownBlock ∧ k_ ≠ gb206) (.slice A3 l3.length c3) l3) ∧ Aside0 (Kd.N (Kd.slice 5 (Kd.int .u8)) 25 wc w.heap.size (fun k_ => ((P2_ k_ ∨ P3_ k_) ∨ w.heap.size ≤ k_) ∧ k_ ≠ gb206) v216 y215) ∧ Aside0 (wc.heap[gb206]? = some (.cells #[.int .i64 a0_0, .int .i64 a0_1, .int .i64 a0_2, .int .u64 a0_3, .int .u64 a0_4, .int .u64 a0_5] 24 (0, 0))) ∧ Aside0 (Below w.heap.size w wc))
      case first =>
        have H := HC27.out
        clear HC27
        by_cases c28 : x43_15 = true
        · subst c28
          have H1 : (some true) = some r := by rw [if_pos rfl] at H; exact H
          clear H
          have H := H1
          clear H1
          obtain rfl := Option.some.inj H
          go_wp2
          go_ret
          exact ⟨by first | rfl | (simp [errW_none, errW_some] <;> rfl) | (simp [*, errW_none, errW_some] <;> rfl), by repeat (first | (with_reducible first | exact HB.out | apply below_alloc | apply pw_below_drewN | apply below_drew1 | refine below_set ?_ GE206.out) | exact HB.out)⟩
        replace c28 := Bool.eq_false_iff.mpr c28
        subst c28
        have H1 : (laws_FnChainsInParts.j3 kj15 l1 l2 l3 a4 y215 a0_0 a0_1 a0_2 a0_3 a0_4 a0_5) = some r := by rw [if_neg (show ¬ (false = true) by decide)] at H; exact H
        clear H
        have H := H1
        clear H1
        have H' := Aside0.mk H
        clear H
        go_wp2
        go_meet
        case rel => exact ⟨_, H', ⟨by have := HJ5.out; have := HJ11.out; have := HJ15.out; first | omega | exact Nat.le_refl _⟩, ⟨by (with_reducible repeat (first | apply Kd.V_alloc | apply Kd.V_drewN | apply Kd.V_drew)); exact HO_2.out⟩, ⟨by (with_reducible repeat (first | apply Kd.V_alloc | apply Kd.V_drewN | apply Kd.V_drew)); exact HO_3.out⟩, ⟨by (with_reducible repeat (first | apply Kd.N_alloc | apply Kd.N_drewN | apply Kd.N_drew)); exact HO_11.out⟩, ⟨by (with_reducible repeat (first | refine blk_drewN ?_ _ | refine blk_drew ?_ | refine blk_alloc ?_ _)); exact BK206.out⟩, ⟨by repeat (first | (with_reducible first | exact HB.out | apply below_alloc | apply pw_below_drewN | apply below_drew1 | refine below_set ?_ GE206.out) | exact HB.out)⟩⟩
      clear HC27
      try clear c1
      try clear c2
      try clear p2
      try clear c3
      try clear c6
      try clear c8
      try clear c8b0
      try clear c8b1
      try clear c10
      try clear c13
      try clear c14
      try clear c15
      try clear c22
      try clear c23
      try clear c23b0
      try clear c23b1
      try clear c28
      try clear p2
      obtain ⟨kq, HA, HJ26, HO_2, HO_3, HO_11, BK206, HB⟩ := hcut
      obtain _ | kj26 := kq
      · exact absurd HA.out (by simp [laws_FnChainsInParts.j3])
      have H := HA.out
      clear HA
      simp only [laws_FnChainsInParts.j3] at H
      replace H := Option.bind_eq_some_iff.mp H
      obtain ⟨t219, A290, H⟩ := H
      replace H : ((impl_ChainInner.f kj26 a0_0 a0_1 a0_2 a0_3 a0_4 a0_5 l1 l2 a4).bind fun t222 => ((impl_ChainInner.f kj26 a0_0 a0_1 a0_2 a0_3 a0_4 a0_5 t222 l3 (shr .u64 a4 (l2.length : Int))).bind fun t225 => ((spec_SameText.f t219 t225).bind fun t228 => (if t228 = true then (laws_FnChainsInParts.j4 kj26 l1 l2 l3 a4 y215 a0_0 a0_1 a0_2 a0_3 a0_4 a0_5) else (some false))))) = some r := H
      have A29 := Aside0.mk A290
      clear A290
      replace H := Option.bind_eq_some_iff.mp H
      obtain ⟨t222, A300, H⟩ := H
      replace H : ((impl_ChainInner.f kj26 a0_0 a0_1 a0_2 a0_3 a0_4 a0_5 t222 l3 (shr .u64 a4 (l2.length : Int))).bind fun t225 => ((spec_SameText.f t219 t225).bind fun t228 => (if t228 = true then (laws_FnChainsInParts.j4 kj26 l1 l2 l3 a4 y215 a0_0 a0_1 a0_2 a0_3 a0_4 a0_5) else (some false)))) = some r := H
      have A30 := Aside0.mk A300
      clear A300
      obtain ⟨ji31, hji31⟩ : ∃ j_ : Int, (shr .u64 a4 (l2.length : Int)) = j_ := ⟨_, rfl⟩
      replace H : ((impl_ChainInner.f kj26 a0_0 a0_1 a0_2 a0_3 a0_4 a0_5 t222 l3 (ji31)).bind fun t225 => ((spec_SameText.f t219 t225).bind fun t228 => (if t228 = true then (laws_FnChainsInParts.j4 kj26 l1 l2 l3 a4 y215 a0_0 a0_1 a0_2 a0_3 a0_4 a0_5) else (some false)))) = some r := by first | (rw [hji31] at H; exact H) | (simp only [hji31] at H ⊢; exact H)
      (try rw [hji31] at A29)
      (try rw [hji31] at A30)
      have hji31_ : (a4 / 2 ^ min (l2.length : Int).toNat 64) = ji31 := hji31
      have hji31z : (l2.length : Int) ≤ 64 → (a4 / 2 ^ (l2.length : Int).toNat) = ji31 := shr_small hji31
      have hji31p : (a4 / 2 ^ min l2.length 64) = ji31 := hji31_
      have hji31q : (l2.length : Int) ≤ 64 → (a4 / 2 ^ l2.length) = ji31 := hji31z
      replace H := Option.bind_eq_some_iff.mp H
      obtain ⟨t225, A320, H⟩ := H
      replace H : ((spec_SameText.f t219 t225).bind fun t228 => (if t228 = true then (laws_FnChainsInParts.j4 kj26 l1 l2 l3 a4 y215 a0_0 a0_1 a0_2 a0_3 a0_4 a0_5) else (some false))) = some r := H
      have A32 := Aside0.mk A320
      clear A320
      replace H := Option.bind_eq_some_iff.mp H
      obtain ⟨t228, A330, H⟩ := H
      replace H : (if t228 = true then (laws_FnChainsInParts.j4 kj26 l1 l2 l3 a4 y215 a0_0 a0_1 a0_2 a0_3 a0_4 a0_5) else (some false)) = some r := H
      have A33 := Aside0.mk A330
      clear A330
      have HC34 := Aside0.mk H
      clear H
      try go_wp2
      have n0_ := Aside0.mk (Kd.V_drew HO_2.out)
      have n1_ := Aside0.mk (Kd.V_drew HO_3.out)
      have n2_ := Aside0.mk (Kd.N_drew HO_11.out)
      have n3_ := Aside0.mk (blk_drew BK206.out)
      have n4_ := Aside0.mk (below_drew1 HB.out)
      clear HO_2
      clear HO_3
      clear HO_11
      clear BK206
      clear HB
      have HO_2 := n0_
      have HO_3 := n1_
      have HO_11 := n2_
      have BK206 := n3_
      have HB := n4_
      clear n0_ n1_ n2_ n3_ n4_
      obtain ⟨Ao36, co36, eo36⟩ := Kd.N_slice HO_11.out
      (first | subst eo36 | (injection eo36 with f1_ f2_ f3_; have f4_ := f1_.symm; have f5_ := f3_.symm; clear f1_ f2_ f3_; subst f4_; subst f5_))
      refine start_ (n := 19) (S := fun w' => w'.cell? ⟨gb206, 0, none⟩ = some (.int .i64 a0_0) ∧ w'.cell? ⟨gb206, 1, none⟩ = some (.int .i64 a0_1) ∧ w'.cell? ⟨gb206, 2, none⟩ = some (.int .i64 a0_2) ∧ w'.cell? ⟨gb206, 3, none⟩ = some (.int .u64 a0_3) ∧ w'.cell? ⟨gb206, 4, none⟩ = some (.int .u64 a0_4) ∧ w'.cell? ⟨gb206, 5, none⟩ = some (.int .u64 a0_5)) (ds := []) #[false, false, false, false, false, false, false, false, false, false, false, false, false, false, false, false, false, false, false] (by kernel_rfl) rfl rfl ⟨(blk_cell BK206.out 0).trans rfl, (blk_cell BK206.out 1).trans rfl, (blk_cell BK206.out 2).trans rfl, (blk_cell BK206.out 3).trans rfl, (blk_cell BK206.out 4).trans rfl, (blk_cell BK206.out 5).trans rfl⟩ (fun hHeld => ?_); refine with_tabW laws_FnChainsInParts.tab6 laws_FnChainsInParts.bits6 (fun HT_ HW_ => ?_)
      generalize wc.drew = w35 at HO_2 HO_3 HO_11 BK206 HB hHeld ⊢
      refine pure_ (i := 1) (N := some 45) (v := ?_) (a' := ?_) #[false, true, false, false, false, false, false, false, false, false, false, false, false, false, false, false, false, false, false] rfl rfl (any_of HT_.out (by kernel_rfl)) (fun _ _ _ h => h) (Or.inl ⟨by rfl, ?_⟩) ?_ ?_
      rotate_left
      · intro w'
        go_simp
        with_reducible rfl
      rotate_left
      · simp only [Act.put, sA_, sB_, sC_, i64_w, i32_w]
        rfl
      refine pure_ (i := 2) (N := some 46) (v := ?_) (a' := ?_) #[false, true, true, false, false, false, false, false, false, false, false, false, false, false, false, false, false, false, false] rfl rfl (any_of HT_.out (by kernel_rfl)) (fun _ _ _ h => h) (Or.inl ⟨by rfl, ?_⟩) ?_ ?_
      rotate_left
      · intro w'
        go_simp
        with_reducible rfl
      rotate_left
      · simp only [Act.put, sA_, sB_, sC_, i64_w, i32_w]
        rfl
      refine pure_ (i := 3) (N := some 47) (v := ?_) (a' := ?_) #[false, true, true, true, false, false, false, false, false, false, false, false, false, false, false, false, false, false, false] rfl rfl (any_of HT_.out (by kernel_rfl)) (fun _ _ _ h => h) (Or.inl ⟨by rfl, ?_⟩) ?_ ?_
      rotate_left
      · intro w'
        go_simp
        with_reducible rfl
      rotate_left
      · simp only [Act.put, sA_, sB_, sC_, i64_w, i32_w]
        rfl
      refine pure_ (i := 7) (N := some 51) (v := ?_) (a' := ?_) #[false, true, true, true, false, false, false, true, false, false, false, false, false, false, false, false, false, false, false] rfl rfl (any_of HT_.out (by kernel_rfl)) (fun _ _ _ h => h) (Or.inl ⟨by rfl, ?_⟩) ?_ ?_
      rotate_left
      · intro w'
        go_simp
        with_reducible rfl
      rotate_left
      · simp only [Act.put, sA_, sB_, sC_, i64_w, i32_w]
        rfl
      refine pure_ (i := 8) (N := some 52) (v := ?_) (a' := ?_) #[false, true, true, true, false, false, false, true, true, false, false, false, false, false, false, false, false, false, false] rfl rfl (any_of HT_.out (by kernel_rfl)) (fun _ _ _ h => h) (Or.inl ⟨by rfl, ?_⟩) ?_ ?_
      rotate_left
      · intro w'
        go_simp
        with_reducible rfl
      rotate_left
      · simp only [Act.put, sA_, sB_, sC_, i64_w, i32_w]
        rfl
      refine pure_ (i := 9) (N := some 53) (v := ?_) (a' := ?_) #[false, true, true, true, false, false, false, true, true, true, false, false, false, false, false, false, false, false, false] rfl rfl (any_of HT_.out (by kernel_rfl)) (fun _ _ _ h => h) (Or.inl ⟨by rfl, ?_⟩) ?_ ?_
      rotate_left
      · intro w'
        go_simp
        with_reducible rfl
      rotate_left
      · simp only [Act.put, sA_, sB_, sC_, i64_w, i32_w]
        rfl
      refine pure_ (i := 11) (N := some 55) (v := ?_) (a' := ?_) #[false, true, true, true, false, false, false, true, true, true, false, true, false, false, false, false, false, false, false] rfl rfl (any_of HT_.out (by kernel_rfl)) (fun _ _ _ h => h) (Or.inl ⟨by rfl, ?_⟩) ?_ ?_
      rotate_left
      · intro w'
        go_simp
        with_reducible rfl
      rotate_left
      · simp only [Act.put, sA_, sB_, sC_, i64_w, i32_w]
        rfl
      refine pure_ (i := 12) (N := some 56) (v := ?_) (a' := ?_) #[false, true, true, true, false, false, false, true, true, true, false, true, true, false, false, false, false, false, false] rfl rfl (any_of HT_.out (by kernel_rfl)) (fun _ _ _ h => h) (Or.inl ⟨by rfl, ?_⟩) ?_ ?_
      rotate_left
      · intro w'
        go_simp
        with_reducible rfl
      rotate_left
      · simp only [Act.put, sA_, sB_, sC_, i64_w, i32_w]
        rfl
      refine pure_ (i := 13) (N := some 57) (v := ?_) (a' := ?_) #[false, true, true, true, false, false, false, true, true, true, false, true, true, true, false, false, false, false, false] rfl rfl (any_of HT_.out (by kernel_rfl)) (fun _ _ _ h => h) (Or.inl ⟨by rfl, ?_⟩) ?_ ?_
      rotate_left
      · intro w'
        go_simp
        with_reducible rfl
      rotate_left
      · simp only [Act.put, sA_, sB_, sC_, i64_w, i32_w]
        rfl
      refine pure_ (i := 14) (N := some 58) (v := ?_) (a' := ?_) #[false, true, true, true, false, false, false, true, true, true, false, true, true, true, true, false, false, false, false] rfl rfl (any_of HT_.out (by kernel_rfl)) (fun _ _ _ h => h) (Or.inl ⟨by rfl, ?_⟩) ?_ ?_
      rotate_left
      · intro w'
        go_simp
        with_reducible rfl
      rotate_left
      · simp only [Act.put, sA_, sB_, sC_, i64_w, i32_w]
        rfl
      refine pure_ (i := 15) (N := some 59) (v := ?_) (a' := ?_) #[false, true, true, true, false, false, false, true, true, true, false, true, true, true, true, true, false, false, false] rfl rfl (any_of HT_.out (by kernel_rfl)) (fun _ _ _ h => h) (Or.inl ⟨by rfl, ?_⟩) ?_ ?_
      rotate_left
      · intro w'
        go_simp
        with_reducible rfl
      rotate_left
      · simp only [Act.put, sA_, sB_, sC_, i64_w, i32_w]
        rfl
      refine take_ (i := 0) (N := some 44) (v := ?_) (a' := ?_) #[true, true, true, true, false, false, false, true, true, true, false, true, true, true, true, true, false, false, false] rfl rfl (take_ofW HT_.out HW_.out (by kernel_rfl)) (fun _ _ _ h => h) (Or.inl ⟨by rfl, ?_⟩) hHeld ?_ ?_
      rotate_left
      · rintro w' ⟨s0, s1, s2, s3, s4, s5⟩
        go_simp
        with_reducible rfl
      rotate_left
      · simp only [Act.put, sA_, sB_, sC_, i64_w, i32_w]
        rfl
      refine take_ (i := 5) (N := some 49) (v := ?_) (a' := ?_) #[true, true, true, true, false, true, false, true, true, true, false, true, true, true, true, true, false, false, false] rfl rfl (take_ofW HT_.out HW_.out (by kernel_rfl)) (fun _ _ _ h => h) (Or.inl ⟨by rfl, ?_⟩) hHeld ?_ ?_
      rotate_left
      · rintro w' ⟨s0, s1, s2, s3, s4, s5⟩
        go_simp
        with_reducible rfl
      rotate_left
      · simp only [Act.put, sA_, sB_, sC_, i64_w, i32_w]
        rfl
      refine take_ (i := 6) (N := some 50) (v := ?_) (a' := ?_) #[true, true, true, true, false, true, true, true, true, true, false, true, true, true, true, true, false, false, false] rfl rfl (take_ofW HT_.out HW_.out (by kernel_rfl)) (fun _ _ _ h => h) (Or.inl ⟨by rfl, ?_⟩) hHeld ?_ ?_
      rotate_left
      · rintro w' ⟨s0, s1, s2, s3, s4, s5⟩
        go_simp
        with_reducible rfl
      rotate_left
      · simp only [Act.put, sA_, sB_, sC_, i64_w, i32_w]
        rfl
      refine one_ (i := 4) (N := some 48) #[true, true, true, true, true, true, true, true, true, true, false, true, true, true, true, true, false, false, false] rfl rfl (one_of HT_.out (by kernel_rfl)) (by decide) (fun K hK => ?_)
      refine goes_ Try.func8 (by kernel_rfl) rfl #[.agg #[.int .i64 a0_0, .int .i64 a0_1, .int .i64 a0_2, .int .u64 a0_3, .int .u64 a0_4, .int .u64 a0_5], .slice A1 l1.length c1, .slice Ao36 y215.length co36, .int .u64 a4] (by rfl) rfl rfl (by (try simp only [List.map_toArray, List.map_cons, List.map_nil]); first | done | rfl | (simp only [List.length_drop, List.length_take]; rfl)) ?_
      with_reducible refine (impl_ChainInner.calls kj26 a0_0 a0_1 a0_2 a0_3 a0_4 a0_5 _ _ l1 _ _ y215 a4 t219 _ ?side1 ?side2 ?side3 ?side4 A29.out).mono ?_
      (case side1 => repeat (first | exact (Kd.C_below HR1.out HB.out) | (with_reducible refine Kd.C_alloc ?_ _) | (with_reducible refine Kd.C_drewN ?_ _) | (with_reducible refine Kd.C_drew ?_)))
      (case side2 => exact HC1.out)
      (case side3 => repeat (first | exact (Kd.N_reads' HO_11.out).2.2 | (with_reducible refine Kd.C_alloc ?_ _) | (with_reducible refine Kd.C_drewN ?_ _) | (with_reducible refine Kd.C_drew ?_)))
      (case side4 => exact (Kd.N_reads' HO_11.out).2.1)
      rintro e w37 ⟨v220, rfl, ho0, hb⟩
      refine ⟨_, rfl, ?_⟩
      have n0_ := Aside0.mk (Kd.V_below (by (with_reducible repeat (first | apply Kd.V_alloc | apply Kd.V_drewN | apply Kd.V_drew)); exact HO_2.out) hb)
      have n1_ := Aside0.mk (Kd.V_below (by (with_reducible repeat (first | apply Kd.V_alloc | apply Kd.V_drewN | apply Kd.V_drew)); exact HO_3.out) hb)
      have n2_ := Aside0.mk (Kd.N_below (by (with_reducible repeat (first | apply Kd.N_alloc | apply Kd.N_drewN | apply Kd.N_drew)); exact HO_11.out) hb)
      have n3_ := Aside0.mk (Kd.V_lower (Kd.V_mono (ok' := fun k_ => ((P2_ k_ ∨ P3_ k_) ∨ w.heap.size ≤ k_) ∧ some k_ ≠ (.slice Ao36 y215.length co36 : Value).ownBlock ∧ k_ ≠ gb206) ho0 (fun k_ hk_ => ⟨(.inr (Nat.le_trans (below_size (by repeat (first | (with_reducible first | exact HB.out | apply below_alloc | apply pw_below_drewN | apply below_drew1 | refine below_set ?_ GE206.out) | exact HB.out))) hk_)), (Kd.fresh' (Kd.N_lt (by (with_reducible repeat (first | apply Kd.N_alloc | apply Kd.N_drewN | apply Kd.N_drew)); exact HO_11.out)) k_ hk_), (Kd.freshB (g := gb206) (o := .cells #[.int .i64 a0_0, .int .i64 a0_1, .int .i64 a0_2, .int .u64 a0_3, .int .u64 a0_4, .int .u64 a0_5] 24 (0, 0)) (by (with_reducible repeat (first | refine blk_drewN ?_ _ | refine blk_drew ?_ | refine blk_alloc ?_ _)); exact BK206.out) k_ hk_)⟩)) (below_size (by repeat (first | (with_reducible first | exact HB.out | apply below_alloc | apply pw_below_drewN | apply below_drew1 | refine below_set ?_ GE206.out) | exact HB.out))))
      have n4_ := Aside0.mk (blk_below (g := gb206) (o := .cells #[.int .i64 a0_0, .int .i64 a0_1, .int .i64 a0_2, .int .u64 a0_3, .int .u64 a0_4, .int .u64 a0_5] 24 (0, 0)) (by (with_reducible repeat (first | refine blk_drewN ?_ _ | refine blk_drew ?_ | refine blk_alloc ?_ _)); exact BK206.out) hb)
      have n5_ := Aside0.mk (below_step (by repeat (first | (with_reducible first | exact HB.out | apply below_alloc | apply pw_below_drewN | apply below_drew1 | refine below_set ?_ GE206.out) | exact HB.out)) hb)
      clear HO_2
      clear HO_3
      clear HO_11
      clear BK206
      clear HB
      have HO_2 := n0_
      have HO_3 := n1_
      have HO_11 := n2_
      have HO221 := n3_
      have BK206 := n4_
      have HB := n5_
      clear n0_ n1_ n2_ n3_ n4_ n5_
      (try clear hb)
      (try clear hb2)
      (try clear hk)
      (try clear hi)
      (try clear ho0)
      refine hK.out _ _ ⟨(blk_cell BK206.out 0).trans rfl, (blk_cell BK206.out 1).trans rfl, (blk_cell BK206.out 2).trans rfl, (blk_cell BK206.out 3).trans rfl, (blk_cell BK206.out 4).trans rfl, (blk_cell BK206.out 5).trans rfl⟩ (fun hHeld => ?_)
      clear hK K
      refine norm_ (a' := ?_) ?_ ?_
      rotate_left
      · show Act.put _ (some 48) _ = _
        simp only [Act.put, sA_, sB_, sC_, i64_w, i32_w]
        rfl
      refine one_ (i := 10) (N := some 54) #[true, true, true, true, true, true, true, true, true, true, true, true, true, true, true, true, false, false, false] rfl rfl (one_of HT_.out (by kernel_rfl)) (by decide) (fun K hK => ?_)
      refine goes_ Try.func8 (by kernel_rfl) rfl #[.agg #[.int .i64 a0_0, .int .i64 a0_1, .int .i64 a0_2, .int .u64 a0_3, .int .u64 a0_4, .int .u64 a0_5], .slice A1 l1.length c1, .slice A2 l2.length c2, .int .u64 a4] (by rfl) rfl rfl (by (try simp only [List.map_toArray, List.map_cons, List.map_nil]); first | done | rfl | (simp only [List.length_drop, List.length_take]; rfl)) ?_
      with_reducible refine (impl_ChainInner.calls kj26 a0_0 a0_1 a0_2 a0_3 a0_4 a0_5 _ _ l1 _ _ l2 a4 t222 _ ?side1 ?side2 ?side3 ?side4 A30.out).mono ?_
      (case side1 => repeat (first | exact (Kd.C_below HR1.out HB.out) | (with_reducible refine Kd.C_alloc ?_ _) | (with_reducible refine Kd.C_drewN ?_ _) | (with_reducible refine Kd.C_drew ?_)))
      (case side2 => exact HC1.out)
      (case side3 => repeat (first | exact (Kd.V_reads' HO_2.out).2.2 | (with_reducible refine Kd.C_alloc ?_ _) | (with_reducible refine Kd.C_drewN ?_ _) | (with_reducible refine Kd.C_drew ?_)))
      (case side4 => exact (Kd.V_reads' HO_2.out).2.1)
      rintro e w38 ⟨v223, rfl, ho0, hb⟩
      refine ⟨_, rfl, ?_⟩
      have n0_ := Aside0.mk (Kd.V_below (by (with_reducible repeat (first | apply Kd.V_alloc | apply Kd.V_drewN | apply Kd.V_drew)); exact HO_2.out) hb)
      have n1_ := Aside0.mk (Kd.V_below (by (with_reducible repeat (first | apply Kd.V_alloc | apply Kd.V_drewN | apply Kd.V_drew)); exact HO_3.out) hb)
      have n2_ := Aside0.mk (Kd.N_below (by (with_reducible repeat (first | apply Kd.N_alloc | apply Kd.N_drewN | apply Kd.N_drew)); exact HO_11.out) hb)
      have n3_ := Aside0.mk (Kd.V_below (by (with_reducible repeat (first | apply Kd.V_alloc | apply Kd.V_drewN | apply Kd.V_drew)); exact HO221.out) hb)
      have n4_ := Aside0.mk (Kd.V_lower (Kd.V_mono (ok' := fun k_ => ((P2_ k_ ∨ P3_ k_) ∨ w.heap.size ≤ k_) ∧ some k_ ≠ (.slice Ao36 y215.length co36 : Value).ownBlock ∧ k_ ≠ gb206) ho0 (fun k_ hk_ => ⟨(.inr (Nat.le_trans (below_size (by repeat (first | (with_reducible first | exact HB.out | apply below_alloc | apply pw_below_drewN | apply below_drew1 | refine below_set ?_ GE206.out) | exact HB.out))) hk_)), (Kd.fresh' (Kd.N_lt (by (with_reducible repeat (first | apply Kd.N_alloc | apply Kd.N_drewN | apply Kd.N_drew)); exact HO_11.out)) k_ hk_), (Kd.freshB (g := gb206) (o := .cells #[.int .i64 a0_0, .int .i64 a0_1, .int .i64 a0_2, .int .u64 a0_3, .int .u64 a0_4, .int .u64 a0_5] 24 (0, 0)) (by (with_reducible repeat (first | refine blk_drewN ?_ _ | refine blk_drew ?_ | refine blk_alloc ?_ _)); exact BK206.out) k_ hk_)⟩)) (below_size (by repeat (first | (with_reducible first | exact HB.out | apply below_alloc | apply pw_below_drewN | apply below_drew1 | refine below_set ?_ GE206.out) | exact HB.out))))
      have n5_ := Aside0.mk (blk_below (g := gb206) (o := .cells #[.int .i64 a0_0, .int .i64 a0_1, .int .i64 a0_2, .int .u64 a0_3, .int .u64 a0_4, .int .u64 a0_5] 24 (0, 0)) (by (with_reducible repeat (first | refine blk_drewN ?_ _ | refine blk_drew ?_ | refine blk_alloc ?_ _)); exact BK206.out) hb)
      have n6_ := Aside0.mk (below_step (by repeat (first | (with_reducible first | exact HB.out | apply below_alloc | apply pw_below_drewN | apply below_drew1 | refine below_set ?_ GE206.out) | exact HB.out)) hb)
      clear HO_2
      clear HO_3
      clear HO_11
      clear HO221
      clear BK206
      clear HB
      have HO_2 := n0_
      have HO_3 := n1_
      have HO_11 := n2_
      have HO221 := n3_
      have HO224 := n4_
      have BK206 := n5_
      have HB := n6_
      clear n0_ n1_ n2_ n3_ n4_ n5_ n6_
      (try clear hb)
      (try clear hb2)
      (try clear hk)
      (try clear hi)
      (try clear ho0)
      obtain ⟨Ao39, co39, eo39⟩ := Kd.V_slice HO224.out
      (first | subst eo39 | (injection eo39 with f1_ f2_ f3_; have f4_ := f1_.symm; have f5_ := f3_.symm; clear f1_ f2_ f3_; subst f4_; subst f5_))
      refine hK.out _ _ ⟨(blk_cell BK206.out 0).trans rfl, (blk_cell BK206.out 1).trans rfl, (blk_cell BK206.out 2).trans rfl, (blk_cell BK206.out 3).trans rfl, (blk_cell BK206.out 4).trans rfl, (blk_cell BK206.out 5).trans rfl⟩ (fun hHeld => ?_)
      clear hK K
      refine norm_ (a' := ?_) ?_ ?_
      rotate_left
      · show Act.put _ (some 54) _ = _
        simp only [Act.put, sA_, sB_, sC_, i64_w, i32_w]
        rfl
      refine one_ (i := 16) (N := some 60) #[true, true, true, true, true, true, true, true, true, true, true, true, true, true, true, true, true, false, false] rfl rfl (one_of HT_.out (by kernel_rfl)) (by decide) (fun K hK => ?_)
      refine goes_ Try.func8 (by kernel_rfl) rfl #[.agg #[.int .i64 a0_0, .int .i64 a0_1, .int .i64 a0_2, .int .u64 a0_3, .int .u64 a0_4, .int .u64 a0_5], .slice Ao39 t222.length co39, .slice A3 l3.length c3, .int .u64 ji31] (by rfl) rfl rfl (by (try simp only [List.map_toArray, List.map_cons, List.map_nil]); first | done | (simp only [hji31]; rfl) | rfl | (simp only [List.length_drop, List.length_take]; rfl)) ?_
      with_reducible refine (impl_ChainInner.calls kj26 a0_0 a0_1 a0_2 a0_3 a0_4 a0_5 _ _ t222 _ _ l3 ji31 t225 _ ?side1 ?side2 ?side3 ?side4 A32.out).mono ?_
      (case side1 => repeat (first | exact (Kd.V_reads' HO224.out).2.2 | (with_reducible refine Kd.C_alloc ?_ _) | (with_reducible refine Kd.C_drewN ?_ _) | (with_reducible refine Kd.C_drew ?_)))
      (case side2 => exact (Kd.V_reads' HO224.out).2.1)
      (case side3 => repeat (first | exact (Kd.V_reads' HO_3.out).2.2 | (with_reducible refine Kd.C_alloc ?_ _) | (with_reducible refine Kd.C_drewN ?_ _) | (with_reducible refine Kd.C_drew ?_)))
      (case side4 => exact (Kd.V_reads' HO_3.out).2.1)
      rintro e w40 ⟨v226, rfl, ho0, hb⟩
      refine ⟨_, rfl, ?_⟩
      have n0_ := Aside0.mk (Kd.V_below (by (with_reducible repeat (first | apply Kd.V_alloc | apply Kd.V_drewN | apply Kd.V_drew)); exact HO_2.out) hb)
      have n1_ := Aside0.mk (Kd.V_below (by (with_reducible repeat (first | apply Kd.V_alloc | apply Kd.V_drewN | apply Kd.V_drew)); exact HO_3.out) hb)
      have n2_ := Aside0.mk (Kd.N_below (by (with_reducible repeat (first | apply Kd.N_alloc | apply Kd.N_drewN | apply Kd.N_drew)); exact HO_11.out) hb)
      have n3_ := Aside0.mk (Kd.V_below (by (with_reducible repeat (first | apply Kd.V_alloc | apply Kd.V_drewN | apply Kd.V_drew)); exact HO221.out) hb)
      have n4_ := Aside0.mk (Kd.V_below (by (with_reducible repeat (first | apply Kd.V_alloc | apply Kd.V_drewN | apply Kd.V_drew)); exact HO224.out) hb)
      have n5_ := Aside0.mk (Kd.V_lower (Kd.V_mono (ok' := fun k_ => ((P2_ k_ ∨ P3_ k_) ∨ w.heap.size ≤ k_) ∧ some k_ ≠ (.slice Ao36 y215.length co36 : Value).ownBlock ∧ k_ ≠ gb206) ho0 (fun k_ hk_ => ⟨(.inr (Nat.le_trans (below_size (by repeat (first | (with_reducible first | exact HB.out | apply below_alloc | apply pw_below_drewN | apply below_drew1 | refine below_set ?_ GE206.out) | exact HB.out))) hk_)), (Kd.fresh' (Kd.N_lt (by (with_reducible repeat (first | apply Kd.N_alloc | apply Kd.N_drewN | apply Kd.N_drew)); exact HO_11.out)) k_ hk_), (Kd.freshB (g := gb206) (o := .cells #[.int .i64 a0_0, .int .i64 a0_1, .int .i64 a0_2, .int .u64 a0_3, .int .u64 a0_4, .int .u64 a0_5] 24 (0, 0)) (by (with_reducible repeat (first | refine blk_drewN ?_ _ | refine blk_drew ?_ | refine blk_alloc ?_ _)); exact BK206.out) k_ hk_)⟩)) (below_size (by repeat (first | (with_reducible first | exact HB.out | apply below_alloc | apply pw_below_drewN | apply below_drew1 | refine below_set ?_ GE206.out) | exact HB.out))))
      have n6_ := Aside0.mk (blk_below (g := gb206) (o := .cells #[.int .i64 a0_0, .int .i64 a0_1, .int .i64 a0_2, .int .u64 a0_3, .int .u64 a0_4, .int .u64 a0_5] 24 (0, 0)) (by (with_reducible repeat (first | refine blk_drewN ?_ _ | refine blk_drew ?_ | refine blk_alloc ?_ _)); exact BK206.out) hb)
      have n7_ := Aside0.mk (below_step (by repeat (first | (with_reducible first | exact HB.out | apply below_alloc | apply pw_below_drewN | apply below_drew1 | refine below_set ?_ GE206.out) | exact HB.out)) hb)
      clear HO_2
      clear HO_3
      clear HO_11
      clear HO221
      clear HO224
      clear BK206
      clear HB
      have HO_2 := n0_
      have HO_3 := n1_
      have HO_11 := n2_
      have HO221 := n3_
      have HO224 := n4_
      have HO227 := n5_
      have BK206 := n6_
      have HB := n7_
      clear n0_ n1_ n2_ n3_ n4_ n5_ n6_ n7_
      (try clear hb)
      (try clear hb2)
      (try clear hk)
      (try clear hi)
      (try clear ho0)
      obtain ⟨Ao41, co41, eo41⟩ := Kd.V_slice HO221.out
      (first | subst eo41 | (injection eo41 with f1_ f2_ f3_; have f4_ := f1_.symm; have f5_ := f3_.symm; clear f1_ f2_ f3_; subst f4_; subst f5_))
      obtain ⟨Ao42, co42, eo42⟩ := Kd.V_slice HO227.out
      (first | subst eo42 | (injection eo42 with f1_ f2_ f3_; have f4_ := f1_.symm; have f5_ := f3_.symm; clear f1_ f2_ f3_; subst f4_; subst f5_))
      refine hK.out _ _ ⟨(blk_cell BK206.out 0).trans rfl, (blk_cell BK206.out 1).trans rfl, (blk_cell BK206.out 2).trans rfl, (blk_cell BK206.out 3).trans rfl, (blk_cell BK206.out 4).trans rfl, (blk_cell BK206.out 5).trans rfl⟩ (fun hHeld => ?_)
      clear hK K
      refine norm_ (a' := ?_) ?_ ?_
      rotate_left
      · show Act.put _ (some 60) _ = _
        simp only [Act.put, sA_, sB_, sC_, i64_w, i32_w]
        rfl
      refine one_ (i := 17) (N := some 61) #[true, true, true, true, true, true, true, true, true, true, true, true, true, true, true, true, true, true, false] rfl rfl (one_of HT_.out (by kernel_rfl)) (by decide) (fun K hK => ?_)
      refine goes_ Try.func7 (by kernel_rfl) rfl #[.slice Ao41 t219.length co41, .slice Ao42 t225.length co42] (by rfl) rfl rfl (by (try simp only [List.map_toArray, List.map_cons, List.map_nil]); first | done | rfl | (simp only [List.length_drop, List.length_take]; rfl)) ?_
      with_reducible refine (spec_SameText.calls _ _ t219 _ _ t225 t228 _ ?side1 ?side2 ?side3 ?side4 A33.out).mono ?_
      (case side1 => repeat (first | exact (Kd.V_reads' HO221.out).2.2 | (with_reducible refine Kd.C_alloc ?_ _) | (with_reducible refine Kd.C_drewN ?_ _) | (with_reducible refine Kd.C_drew ?_)))
      (case side2 => exact (Kd.V_reads' HO221.out).2.1)
      (case side3 => repeat (first | exact (Kd.V_reads' HO227.out).2.2 | (with_reducible refine Kd.C_alloc ?_ _) | (with_reducible refine Kd.C_drewN ?_ _) | (with_reducible refine Kd.C_drew ?_)))
      (case side4 => exact (Kd.V_reads' HO227.out).2.1)
      rintro e w' ⟨rfl, ⟨nd, rfl⟩⟩
      refine ⟨_, rfl, ?_⟩
      refine hK.out _ _ ⟨(blk_cell BK206.out 0).trans rfl, (blk_cell BK206.out 1).trans rfl, (blk_cell BK206.out 2).trans rfl, (blk_cell BK206.out 3).trans rfl, (blk_cell BK206.out 4).trans rfl, (blk_cell BK206.out 5).trans rfl⟩ (fun hHeld => ?_)
      clear hK K
      refine norm_ (a' := ?_) ?_ ?_
      rotate_left
      · show Act.put _ (some 61) _ = _
        simp only [Act.put, sA_, sB_, sC_, i64_w, i32_w]
        rfl
      refine pure_ (i := 18) (N := some 62) (v := ?_) (a' := ?_) #[true, true, true, true, true, true, true, true, true, true, true, true, true, true, true, true, true, true, true] rfl rfl (any_of HT_.out (by kernel_rfl)) (fun _ _ _ h => h) (Or.inl ⟨by rfl, ?_⟩) ?_ ?_
      rotate_left
      · intro w'
        go_simp
        with_reducible rfl
      rotate_left
      · simp only [Act.put, sA_, sB_, sC_, i64_w, i32_w]
        rfl
      refine done_ (done_of HT_.out (by kernel_rfl)) ?_
      go_upto_if 62 with (fail)
      go_cut [] (fun wc => ∃ (kq : Nat), Aside0 (laws_FnChainsInParts.j4 kq l1 l2 l3 a4 y215 a0_0 a0_1 a0_2 a0_3 a0_4 a0_5 = some r) ∧ Aside0 (kq ≤ kj26) ∧ Aside0 (Kd.V (Kd.slice 5 (Kd.int .u8)) 25 wc w.heap.size (fun k_ => ((P2_ k_ ∨ P3_ k_) ∨ w.heap.size ≤ k_) ∧ some k_ ≠ ((.slice Ao36 y215.length co36) : Value).ownBlock ∧ k_ ≠ gb206) (.slice A2 l2.length c2) l2) ∧ Aside0 (Kd.V (Kd.slice 5 (Kd.int .u8)) 25 wc w.heap.size (fun k_ => ((P2_ k_ ∨ P3_ k_) ∨ w.heap.size ≤ k_) ∧ some k_ ≠ ((.slice Ao36 y215.length co36) : Value).ownBlock ∧ k_ ≠ gb206) (.slice A3 l3.length c3) l3) ∧ Aside0 (Kd.N (Kd.slice 5 (Kd.int .u8)) 25 wc w.heap.size (fun k_ => ((P2_ k_ ∨ P3_ k_) ∨ w.heap.size ≤ k_) ∧ k_ ≠ gb206) (.slice Ao36 y215.length co36) y215) ∧ Aside0 (wc.heap[gb206]? = some (.cells #[.int .i64 a0_0, .int .i64 a0_1, .int .i64 a0_2, .int .u64 a0_3, .int .u64 a0_4, .int .u64 a0_5] 24 (0, 0))) ∧ Aside0 (Below w.heap.size w wc))
      case first =>
        have H := HC34.out
        clear HC34
        by_cases c43 : t228 = true
        · subst c43
          have H1 : (laws_FnChainsInParts.j4 kj26 l1 l2 l3 a4 y215 a0_0 a0_1 a0_2 a0_3 a0_4 a0_5) = some r := by rw [if_pos rfl] at H; exact H
          clear H
          have H := H1
          clear H1
          have H' := Aside0.mk H
          clear H
          go_wp2
          go_meet
          case rel => exact ⟨_, H', ⟨by have := HJ5.out; have := HJ11.out; have := HJ15.out; have := HJ26.out; first | omega | exact Nat.le_refl _⟩, ⟨by (with_reducible repeat (first | apply Kd.V_alloc | apply Kd.V_drewN | apply Kd.V_drew)); exact HO_2.out⟩, ⟨by (with_reducible repeat (first | apply Kd.V_alloc | apply Kd.V_drewN | apply Kd.V_drew)); exact HO_3.out⟩, ⟨by (with_reducible repeat (first | apply Kd.N_alloc | apply Kd.N_drewN | apply Kd.N_drew)); exact HO_11.out⟩, ⟨by (with_reducible repeat (first | refine blk_drewN ?_ _ | refine blk_drew ?_ | refine blk_alloc ?_ _)); exact BK206.out⟩, ⟨by repeat (first | (with_reducible first | exact HB.out | apply below_alloc | apply pw_below_drewN | apply below_drew1 | refine below_set ?_ GE206.out) | exact HB.out)⟩⟩
        replace c43 := Bool.eq_false_iff.mpr c43
        subst c43
        have H1 : (some false) = some r := by rw [if_neg (show ¬ (false = true) by decide)] at H; exact H
        clear H
        have H := H1
        clear H1
        obtain rfl := Option.some.inj H
        go_wp2
        go_ret
        exact ⟨by first | rfl | (simp [errW_none, errW_some] <;> rfl) | (simp only [← hji31]; first | rfl | (simp [errW_none, errW_some] <;> rfl)) | (simp [*, errW_none, errW_some] <;> rfl), by repeat (first | (with_reducible first | exact HB.out | apply below_alloc | apply pw_below_drewN | apply below_drew1 | refine below_set ?_ GE206.out) | exact HB.out)⟩
      clear HC34
      try clear c1
      try clear c2
      try clear p2
      try clear c3
      try clear c4
      try clear c6
      try clear c7
      try clear c8
      try clear c8b0
      try clear c8b1
      try clear c10
      try clear c13
      try clear c14
      try clear c15
      try clear c22
      try clear c23
      try clear c23b0
      try clear c23b1
      try clear c28
      try clear c43
      try clear p2
      obtain ⟨kq, HA, HJ33, HO_2, HO_3, HO_11, BK206, HB⟩ := hcut
      obtain _ | kj33 := kq
      · exact absurd HA.out (by simp [laws_FnChainsInParts.j4])
      have H := HA.out
      clear HA
      simp only [laws_FnChainsInParts.j4] at H
      replace H := Option.bind_eq_some_iff.mp H
      obtain ⟨t229, A440, H⟩ := H
      replace H : ((impl_ChainInnerRight.f kj33 a0_0 a0_1 a0_2 a0_3 a0_4 a0_5 l1 l2 a4).bind fun t232 => ((impl_ChainInnerRight.f kj33 a0_0 a0_1 a0_2 a0_3 a0_4 a0_5 t232 l3 (shr .u64 a4 (l2.length : Int))).bind fun t235 => ((spec_SameText.f t229 t235).bind fun t238 => (if t238 = true then (laws_FnChainsInParts.j5 kj33 l1 l2 l3 y215 a0_0 a0_1 a0_2 a0_3 a0_4 a0_5) else (some false))))) = some r := H
      have A44 := Aside0.mk A440
      clear A440
      replace H := Option.bind_eq_some_iff.mp H
      obtain ⟨t232, A450, H⟩ := H
      replace H : ((impl_ChainInnerRight.f kj33 a0_0 a0_1 a0_2 a0_3 a0_4 a0_5 t232 l3 (shr .u64 a4 (l2.length : Int))).bind fun t235 => ((spec_SameText.f t229 t235).bind fun t238 => (if t238 = true then (laws_FnChainsInParts.j5 kj33 l1 l2 l3 y215 a0_0 a0_1 a0_2 a0_3 a0_4 a0_5) else (some false)))) = some r := H
      have A45 := Aside0.mk A450
      clear A450
      obtain ⟨ji46, hji46⟩ : ∃ j_ : Int, (shr .u64 a4 (l2.length : Int)) = j_ := ⟨_, rfl⟩
      (try (have e_ : ji46 = ji31 := hji46.symm.trans hji31; subst e_))
      replace H : ((impl_ChainInnerRight.f kj33 a0_0 a0_1 a0_2 a0_3 a0_4 a0_5 t232 l3 (ji46)).bind fun t235 => ((spec_SameText.f t229 t235).bind fun t238 => (if t238 = true then (laws_FnChainsInParts.j5 kj33 l1 l2 l3 y215 a0_0 a0_1 a0_2 a0_3 a0_4 a0_5) else (some false)))) = some r := by first | (rw [hji46] at H; exact H) | (simp only [hji46] at H ⊢; exact H)
      (try rw [hji46] at A44)
      (try rw [hji46] at A45)
      have hji46_ : (a4 / 2 ^ min (l2.length : Int).toNat 64) = ji46 := hji46
      have hji46z : (l2.length : Int) ≤ 64 → (a4 / 2 ^ (l2.length : Int).toNat) = ji46 := shr_small hji46
      have hji46p : (a4 / 2 ^ min l2.length 64) = ji46 := hji46_
      have hji46q : (l2.length : Int) ≤ 64 → (a4 / 2 ^ l2.length) = ji46 := hji46z
      replace H := Option.bind_eq_some_iff.mp H
      obtain ⟨t235, A470, H⟩ := H
      replace H : ((spec_SameText.f t229 t235).bind fun t238 => (if t238 = true then (laws_FnChainsInParts.j5 kj33 l1 l2 l3 y215 a0_0 a0_1 a0_2 a0_3 a0_4 a0_5) else (some false))) = some r := H
      have A47 := Aside0.mk A470
      clear A470
      replace H := Option.bind_eq_some_iff.mp H
      obtain ⟨t238, A480, H⟩ := H
      replace H : (if t238 = true then (laws_FnChainsInParts.j5 kj33 l1 l2 l3 y215 a0_0 a0_1 a0_2 a0_3 a0_4 a0_5) else (some false)) = some r := H
      have A48 := Aside0.mk A480
      clear A480
      have HC49 := Aside0.mk H
      clear H
      try go_wp2
      have n0_ := Aside0.mk (Kd.V_drew HO_2.out)
      have n1_ := Aside0.mk (Kd.V_drew HO_3.out)
      have n2_ := Aside0.mk (Kd.N_drew HO_11.out)
      have n3_ := Aside0.mk (blk_drew BK206.out)
      have n4_ := Aside0.mk (below_drew1 HB.out)
      clear HO_2
      clear HO_3
      clear HO_11
      clear BK206
      clear HB
      have HO_2 := n0_
      have HO_3 := n1_
      have HO_11 := n2_
      have BK206 := n3_
      have HB := n4_
      clear n0_ n1_ n2_ n3_ n4_
      refine start_ (n := 19) (S := fun w' => w'.cell? ⟨gb206, 0, none⟩ = some (.int .i64 a0_0) ∧ w'.cell? ⟨gb206, 1, none⟩ = some (.int .i64 a0_1) ∧ w'.cell? ⟨gb206, 2, none⟩ = some (.int .i64 a0_2) ∧ w'.cell? ⟨gb206, 3, none⟩ = some (.int .u64 a0_3) ∧ w'.cell? ⟨gb206, 4, none⟩ = some (.int .u64 a0_4) ∧ w'.cell? ⟨gb206, 5, none⟩ = some (.int .u64 a0_5)) (ds := []) #[false, false, false, false, false, false, false, false, false, false, false, false, false, false, false, false, false, false, false] (by kernel_rfl) rfl rfl ⟨(blk_cell BK206.out 0).trans rfl, (blk_cell BK206.out 1).trans rfl, (blk_cell BK206.out 2).trans rfl, (blk_cell BK206.out 3).trans rfl, (blk_cell BK206.out 4).trans rfl, (blk_cell BK206.out 5).trans rfl⟩ (fun hHeld => ?_); refine with_tabW laws_FnChainsInParts.tab8 laws_FnChainsInParts.bits8 (fun HT_ HW_ => ?_)
      generalize wc.drew = w50 at HO_2 HO_3 HO_11 BK206 HB hHeld ⊢
      refine pure_ (i := 1) (N := some 64) (v := ?_) (a' := ?_) #[false, true, false, false, false, false, false, false, false, false, false, false, false, false, false, false, false, false, false] rfl rfl (any_of HT_.out (by kernel_rfl)) (fun _ _ _ h => h) (Or.inl ⟨by rfl, ?_⟩) ?_ ?_
      rotate_left
      · intro w'
        go_simp
        with_reducible rfl
      rotate_left
      · simp only [Act.put, sA_, sB_, sC_, i64_w, i32_w]
        rfl
      refine pure_ (i := 2) (N := some 65) (v := ?_) (a' := ?_) #[false, true, true, false, false, false, false, false, false, false, false, false, false, false, false, false, false, false, false] rfl rfl (any_of HT_.out (by kernel_rfl)) (fun _ _ _ h => h) (Or.inl ⟨by rfl, ?_⟩) ?_ ?_
      rotate_left
      · intro w'
        go_simp
        with_reducible rfl
      rotate_left
      · simp only [Act.put, sA_, sB_, sC_, i64_w, i32_w]
        rfl
      refine pure_ (i := 3) (N := some 66) (v := ?_) (a' := ?_) #[false, true, true, true, false, false, false, false, false, false, false, false, false, false, false, false, false, false, false] rfl rfl (any_of HT_.out (by kernel_rfl)) (fun _ _ _ h => h) (Or.inl ⟨by rfl, ?_⟩) ?_ ?_
      rotate_left
      · intro w'
        go_simp
        with_reducible rfl
      rotate_left
      · simp only [Act.put, sA_, sB_, sC_, i64_w, i32_w]
        rfl
      refine pure_ (i := 7) (N := some 70) (v := ?_) (a' := ?_) #[false, true, true, true, false, false, false, true, false, false, false, false, false, false, false, false, false, false, false] rfl rfl (any_of HT_.out (by kernel_rfl)) (fun _ _ _ h => h) (Or.inl ⟨by rfl, ?_⟩) ?_ ?_
      rotate_left
      · intro w'
        go_simp
        with_reducible rfl
      rotate_left
      · simp only [Act.put, sA_, sB_, sC_, i64_w, i32_w]
        rfl
      refine pure_ (i := 8) (N := some 71) (v := ?_) (a' := ?_) #[false, true, true, true, false, false, false, true, true, false, false, false, false, false, false, false, false, false, false] rfl rfl (any_of HT_.out (by kernel_rfl)) (fun _ _ _ h => h) (Or.inl ⟨by rfl, ?_⟩) ?_ ?_
      rotate_left
      · intro w'
        go_simp
        with_reducible rfl
      rotate_left
      · simp only [Act.put, sA_, sB_, sC_, i64_w, i32_w]
        rfl
      refine pure_ (i := 9) (N := some 72) (v := ?_) (a' := ?_) #[false, true, true, true, false, false, false, true, true, true, false, false, false, false, false, false, false, false, false] rfl rfl (any_of HT_.out (by kernel_rfl)) (fun _ _ _ h => h) (Or.inl ⟨by rfl, ?_⟩) ?_ ?_
      rotate_left
      · intro w'
        go_simp
        with_reducible rfl
      rotate_left
      · simp only [Act.put, sA_, sB_, sC_, i64_w, i32_w]
        rfl
      refine pure_ (i := 11) (N := some 74) (v := ?_) (a' := ?_) #[false, true, true, true, false, false, false, true, true, true, false, true, false, false, false, false, false, false, false] rfl rfl (any_of HT_.out (by kernel_rfl)) (fun _ _ _ h => h) (Or.inl ⟨by rfl, ?_⟩) ?_ ?_
      rotate_left
      · intro w'
        go_simp
        with_reducible rfl
      rotate_left
      · simp only [Act.put, sA_, sB_, sC_, i64_w, i32_w]
        rfl
      refine pure_ (i := 12) (N := some 75) (v := ?_) (a' := ?_) #[false, true, true, true, false, false, false, true, true, true, false, true, true, false, false, false, false, false, false] rfl rfl (any_of HT_.out (by kernel_rfl)) (fun _ _ _ h => h) (Or.inl ⟨by rfl, ?_⟩) ?_ ?_
      rotate_left
      · intro w'
        go_simp
        with_reducible rfl
      rotate_left
      · simp only [Act.put, sA_, sB_, sC_, i64_w, i32_w]
        rfl
      refine pure_ (i := 13) (N := some 76) (v := ?_) (a' := ?_) #[false, true, true, true, false, false, false, true, true, true, false, true, true, true, false, false, false, false, false] rfl rfl (any_of HT_.out (by kernel_rfl)) (fun _ _ _ h => h) (Or.inl ⟨by rfl, ?_⟩) ?_ ?_
      rotate_left
      · intro w'
        go_simp
        with_reducible rfl
      rotate_left
      · simp only [Act.put, sA_, sB_, sC_, i64_w, i32_w]
        rfl
      refine pure_ (i := 14) (N := some 77) (v := ?_) (a' := ?_) #[false, true, true, true, false, false, false, true, true, true, false, true, true, true, true, false, false, false, false] rfl rfl (any_of HT_.out (by kernel_rfl)) (fun _ _ _ h => h) (Or.inl ⟨by rfl, ?_⟩) ?_ ?_
      rotate_left
      · intro w'
        go_simp
        with_reducible rfl
      rotate_left
      · simp only [Act.put, sA_, sB_, sC_, i64_w, i32_w]
        rfl
      refine pure_ (i := 15) (N := some 78) (v := ?_) (a' := ?_) #[false, true, true, true, false, false, false, true, true, true, false, true, true, true, true, true, false, false, false] rfl rfl (any_of HT_.out (by kernel_rfl)) (fun _ _ _ h => h) (Or.inl ⟨by rfl, ?_⟩) ?_ ?_
      rotate_left
      · intro w'
        go_simp
        with_reducible rfl
      rotate_left
      · simp only [Act.put, sA_, sB_, sC_, i64_w, i32_w]
        rfl
      refine take_ (i := 0) (N := some 63) (v := ?_) (a' := ?_) #[true, true, true, true, false, false, false, true, true, true, false, true, true, true, true, true, false, false, false] rfl rfl (take_ofW HT_.out HW_.out (by kernel_rfl)) (fun _ _ _ h => h) (Or.inl ⟨by rfl, ?_⟩) hHeld ?_ ?_
      rotate_left
      · rintro w' ⟨s0, s1, s2, s3, s4, s5⟩
        go_simp
        with_reducible rfl
      rotate_left
      · simp only [Act.put, sA_, sB_, sC_, i64_w, i32_w]
        rfl
      refine take_ (i := 5) (N := some 68) (v := ?_) (a' := ?_) #[true, true, true, true, false, true, false, true, true, true, false, true, true, true, true, true, false, false, false] rfl rfl (take_ofW HT_.out HW_.out (by kernel_rfl)) (fun _ _ _ h => h) (Or.inl ⟨by rfl, ?_⟩) hHeld ?_ ?_
      rotate_left
      · rintro w' ⟨s0, s1, s2, s3, s4, s5⟩
        go_simp
        with_reducible rfl
      rotate_left
      · simp only [Act.put, sA_, sB_, sC_, i64_w, i32_w]
        rfl
      refine take_ (i := 6) (N := some 69) (v := ?_) (a' := ?_) #[true, true, true, true, false, true, true, true, true, true, false, true, true, true, true, true, false, false, false] rfl rfl (take_ofW HT_.out HW_.out (by kernel_rfl)) (fun _ _ _ h => h) (Or.inl ⟨by rfl, ?_⟩) hHeld ?_ ?_
      rotate_left
      · rintro w' ⟨s0, s1, s2, s3, s4, s5⟩
        go_simp
        with_reducible rfl
      rotate_left
      · simp only [Act.put, sA_, sB_, sC_, i64_w, i32_w]
        rfl
      refine one_ (i := 4) (N := some 67) #[true, true, true, true, true, true, true, true, true, true, false, true, true, true, true, true, false, false, false] rfl rfl (one_of HT_.out (by kernel_rfl)) (by decide) (fun K hK => ?_)
      refine goes_ Try.func9 (by kernel_rfl) rfl #[.agg #[.int .i64 a0_0, .int .i64 a0_1, .int .i64 a0_2, .int .u64 a0_3, .int .u64 a0_4, .int .u64 a0_5], .slice A1 l1.length c1, .slice Ao36 y215.length co36, .int .u64 a4] (by rfl) rfl rfl (by (try simp only [List.map_toArray, List.map_cons, List.map_nil]); first | done | rfl | (simp only [List.length_drop, List.length_take]; rfl)) ?_
      with_reducible refine (impl_ChainInnerRight.calls kj33 a0_0 a0_1 a0_2 a0_3 a0_4 a0_5 _ _ l1 _ _ y215 a4 t229 _ ?side1 ?side2 ?side3 ?side4 A44.out).mono ?_
      (case side1 => repeat (first | exact (Kd.C_below HR1.out HB.out) | (with_reducible refine Kd.C_alloc ?_ _) | (with_reducible refine Kd.C_drewN ?_ _) | (with_reducible refine Kd.C_drew ?_)))
      (case side2 => exact HC1.out)
      (case side3 => repeat (first | exact (Kd.N_reads' HO_11.out).2.2 | (with_reducible refine Kd.C_alloc ?_ _) | (with_reducible refine Kd.C_drewN ?_ _) | (with_reducible refine Kd.C_drew ?_)))
      (case side4 => exact (Kd.N_reads' HO_11.out).2.1)
      rintro e w51 ⟨v230, rfl, ho0, hb⟩
      refine ⟨_, rfl, ?_⟩
      have n0_ := Aside0.mk (Kd.V_below (by (with_reducible repeat (first | apply Kd.V_alloc | apply Kd.V_drewN | apply Kd.V_drew)); exact HO_2.out) hb)
      have n1_ := Aside0.mk (Kd.V_below (by (with_reducible repeat (first | apply Kd.V_alloc | apply Kd.V_drewN | apply Kd.V_drew)); exact HO_3.out) hb)
      have n2_ := Aside0.mk (Kd.N_below (by (with_reducible repeat (first | apply Kd.N_alloc | apply Kd.N_drewN | apply Kd.N_drew)); exact HO_11.out) hb)
      have n3_ := Aside0.mk (Kd.V_lower (Kd.V_mono (ok' := fun k_ => ((P2_ k_ ∨ P3_ k_) ∨ w.heap.size ≤ k_) ∧ some k_ ≠ (.slice Ao36 y215.length co36 : Value).ownBlock ∧ k_ ≠ gb206) ho0 (fun k_ hk_ => ⟨(.inr (Nat.le_trans (below_size (by repeat (first | (with_reducible first | exact HB.out | apply below_alloc | apply pw_below_drewN | apply below_drew1 | refine below_set ?_ GE206.out) | exact HB.out))) hk_)), (Kd.fresh' (Kd.N_lt (by (with_reducible repeat (first | apply Kd.N_alloc | apply Kd.N_drewN | apply Kd.N_drew)); exact HO_11.out)) k_ hk_), (Kd.freshB (g := gb206) (o := .cells #[.int .i64 a0_0, .int .i64 a0_1, .int .i64 a0_2, .int .u64 a0_3, .int .u64 a0_4, .int .u64 a0_5] 24 (0, 0)) (by (with_reducible repeat (first | refine blk_drewN ?_ _ | refine blk_drew ?_ | refine blk_alloc ?_ _)); exact BK206.out) k_ hk_)⟩)) (below_size (by repeat (first | (with_reducible first | exact HB.out | apply below_alloc | apply pw_below_drewN | apply below_drew1 | refine below_set ?_ GE206.out) | exact HB.out))))
      have n4_ := Aside0.mk (blk_below (g := gb206) (o := .cells #[.int .i64 a0_0, .int .i64 a0_1, .int .i64 a0_2, .int .u64 a0_3, .int .u64 a0_4, .int .u64 a0_5] 24 (0, 0)) (by (with_reducible repeat (first | refine blk_drewN ?_ _ | refine blk_drew ?_ | refine blk_alloc ?_ _)); exact BK206.out) hb)
      have n5_ := Aside0.mk (below_step (by repeat (first | (with_reducible first | exact HB.out | apply below_alloc | apply pw_below_drewN | apply below_drew1 | refine below_set ?_ GE206.out) | exact HB.out)) hb)
      clear HO_2
      clear HO_3
      clear HO_11
      clear BK206
      clear HB
      have HO_2 := n0_
      have HO_3 := n1_
      have HO_11 := n2_
      have HO231 := n3_
      have BK206 := n4_
      have HB := n5_
      clear n0_ n1_ n2_ n3_ n4_ n5_
      (try clear hb)
      (try clear hb2)
      (try clear hk)
      (try clear hi)
      (try clear ho0)
      refine hK.out _ _ ⟨(blk_cell BK206.out 0).trans rfl, (blk_cell BK206.out 1).trans rfl, (blk_cell BK206.out 2).trans rfl, (blk_cell BK206.out 3).trans rfl, (blk_cell BK206.out 4).trans rfl, (blk_cell BK206.out 5).trans rfl⟩ (fun hHeld => ?_)
      clear hK K
      refine norm_ (a' := ?_) ?_ ?_
      rotate_left
      · show Act.put _ (some 67) _ = _
        simp only [Act.put, sA_, sB_, sC_, i64_w, i32_w]
        rfl
      refine one_ (i := 10) (N := some 73) #[true, true, true, true, true, true, true, true, true, true, true, true, true, true, true, true, false, false, false] rfl rfl (one_of HT_.out (by kernel_rfl)) (by decide) (fun K hK => ?_)
      refine goes_ Try.func9 (by kernel_rfl) rfl #[.agg #[.int .i64 a0_0, .int .i64 a0_1, .int .i64 a0_2, .int .u64 a0_3, .int .u64 a0_4, .int .u64 a0_5], .slice A1 l1.length c1, .slice A2 l2.length c2, .int .u64 a4] (by rfl) rfl rfl (by (try simp only [List.map_toArray, List.map_cons, List.map_nil]); first | done | rfl | (simp only [List.length_drop, List.length_take]; rfl)) ?_
      with_reducible refine (impl_ChainInnerRight.calls kj33 a0_0 a0_1 a0_2 a0_3 a0_4 a0_5 _ _ l1 _ _ l2 a4 t232 _ ?side1 ?side2 ?side3 ?side4 A45.out).mono ?_
      (case side1 => repeat (first | exact (Kd.C_below HR1.out HB.out) | (with_reducible refine Kd.C_alloc ?_ _) | (with_reducible refine Kd.C_drewN ?_ _) | (with_reducible refine Kd.C_drew ?_)))
      (case side2 => exact HC1.out)
      (case side3 => repeat (first | exact (Kd.V_reads' HO_2.out).2.2 | (with_reducible refine Kd.C_alloc ?_ _) | (with_reducible refine Kd.C_drewN ?_ _) | (with_reducible refine Kd.C_drew ?_)))
      (case side4 => exact (Kd.V_reads' HO_2.out).2.1)
      rintro e w52 ⟨v233, rfl, ho0, hb⟩
      refine ⟨_, rfl, ?_⟩
      have n0_ := Aside0.mk (Kd.V_below (by (with_reducible repeat (first | apply Kd.V_alloc | apply Kd.V_drewN | apply Kd.V_drew)); exact HO_2.out) hb)
      have n1_ := Aside0.mk (Kd.V_below (by (with_reducible repeat (first | apply Kd.V_alloc | apply Kd.V_drewN | apply Kd.V_drew)); exact HO_3.out) hb)
      have n2_ := Aside0.mk (Kd.N_below (by (with_reducible repeat (first | apply Kd.N_alloc | apply Kd.N_drewN | apply Kd.N_drew)); exact HO_11.out) hb)
      have n3_ := Aside0.mk (Kd.V_below (by (with_reducible repeat (first | apply Kd.V_alloc | apply Kd.V_drewN | apply Kd.V_drew)); exact HO231.out) hb)
      have n4_ := Aside0.mk (Kd.V_lower (Kd.V_mono (ok' := fun k_ => ((P2_ k_ ∨ P3_ k_) ∨ w.heap.size ≤ k_) ∧ some k_ ≠ (.slice Ao36 y215.length co36 : Value).ownBlock ∧ k_ ≠ gb206) ho0 (fun k_ hk_ => ⟨(.inr (Nat.le_trans (below_size (by repeat (first | (with_reducible first | exact HB.out | apply below_alloc | apply pw_below_drewN | apply below_drew1 | refine below_set ?_ GE206.out) | exact HB.out))) hk_)), (Kd.fresh' (Kd.N_lt (by (with_reducible repeat (first | apply Kd.N_alloc | apply Kd.N_drewN | apply Kd.N_drew)); exact HO_11.out)) k_ hk_), (Kd.freshB (g := gb206) (o := .cells #[.int .i64 a0_0, .int .i64 a0_1, .int .i64 a0_2, .int .u64 a0_3, .int .u64 a0_4, .int .u64 a0_5] 24 (0, 0)) (by (with_reducible repeat (first | refine blk_drewN ?_ _ | refine blk_drew ?_ | refine blk_alloc ?_ _)); exact BK206.out) k_ hk_)⟩)) (below_size (by repeat (first | (with_reducible first | exact HB.out | apply below_alloc | apply pw_below_drewN | apply below_drew1 | refine below_set ?_ GE206.out) | exact HB.out))))
      have n5_ := Aside0.mk (blk_below (g := gb206) (o := .cells #[.int .i64 a0_0, .int .i64 a0_1, .int .i64 a0_2, .int .u64 a0_3, .int .u64 a0_4, .int .u64 a0_5] 24 (0, 0)) (by (with_reducible repeat (first | refine blk_drewN ?_ _ | refine blk_drew ?_ | refine blk_alloc ?_ _)); exact BK206.out) hb)
      have n6_ := Aside0.mk (below_step (by repeat (first | (with_reducible first | exact HB.out | apply below_alloc | apply pw_below_drewN | apply below_drew1 | refine below_set ?_ GE206.out) | exact HB.out)) hb)
      clear HO_2
      clear HO_3
      clear HO_11
      clear HO231
      clear BK206
      clear HB
      have HO_2 := n0_
      have HO_3 := n1_
      have HO_11 := n2_
      have HO231 := n3_
      have HO234 := n4_
      have BK206 := n5_
      have HB := n6_
      clear n0_ n1_ n2_ n3_ n4_ n5_ n6_
      (try clear hb)
      (try clear hb2)
      (try clear hk)
      (try clear hi)
      (try clear ho0)
      obtain ⟨Ao53, co53, eo53⟩ := Kd.V_slice HO234.out
      (first | subst eo53 | (injection eo53 with f1_ f2_ f3_; have f4_ := f1_.symm; have f5_ := f3_.symm; clear f1_ f2_ f3_; subst f4_; subst f5_))
      refine hK.out _ _ ⟨(blk_cell BK206.out 0).trans rfl, (blk_cell BK206.out 1).trans rfl, (blk_cell BK206.out 2).trans rfl, (blk_cell BK206.out 3).trans rfl, (blk_cell BK206.out 4).trans rfl, (blk_cell BK206.out 5).trans rfl⟩ (fun hHeld => ?_)
      clear hK K
      refine norm_ (a' := ?_) ?_ ?_
      rotate_left
      · show Act.put _ (some 73) _ = _
        simp only [Act.put, sA_, sB_, sC_, i64_w, i32_w]
        rfl
      refine one_ (i := 16) (N := some 79) #[true, true, true, true, true, true, true, true, true, true, true, true, true, true, true, true, true, false, false] rfl rfl (one_of HT_.out (by kernel_rfl)) (by decide) (fun K hK => ?_)
      refine goes_ Try.func9 (by kernel_rfl) rfl #[.agg #[.int .i64 a0_0, .int .i64 a0_1, .int .i64 a0_2, .int .u64 a0_3, .int .u64 a0_4, .int .u64 a0_5], .slice Ao53 t232.length co53, .slice A3 l3.length c3, .int .u64 ji46] (by rfl) rfl rfl (by (try simp only [List.map_toArray, List.map_cons, List.map_nil]); first | done | (simp only [hji46]; rfl) | rfl | (simp only [List.length_drop, List.length_take]; rfl)) ?_
      with_reducible refine (impl_ChainInnerRight.calls kj33 a0_0 a0_1 a0_2 a0_3 a0_4 a0_5 _ _ t232 _ _ l3 ji46 t235 _ ?side1 ?side2 ?side3 ?side4 A47.out).mono ?_
      (case side1 => repeat (first | exact (Kd.V_reads' HO234.out).2.2 | (with_reducible refine Kd.C_alloc ?_ _) | (with_reducible refine Kd.C_drewN ?_ _) | (with_reducible refine Kd.C_drew ?_)))
      (case side2 => exact (Kd.V_reads' HO234.out).2.1)
      (case side3 => repeat (first | exact (Kd.V_reads' HO_3.out).2.2 | (with_reducible refine Kd.C_alloc ?_ _) | (with_reducible refine Kd.C_drewN ?_ _) | (with_reducible refine Kd.C_drew ?_)))
      (case side4 => exact (Kd.V_reads' HO_3.out).2.1)
      rintro e w54 ⟨v236, rfl, ho0, hb⟩
      refine ⟨_, rfl, ?_⟩
      have n0_ := Aside0.mk (Kd.V_below (by (with_reducible repeat (first | apply Kd.V_alloc | apply Kd.V_drewN | apply Kd.V_drew)); exact HO_2.out) hb)
      have n1_ := Aside0.mk (Kd.V_below (by (with_reducible repeat (first | apply Kd.V_alloc | apply Kd.V_drewN | apply Kd.V_drew)); exact HO_3.out) hb)
      have n2_ := Aside0.mk (Kd.N_below (by (with_reducible repeat (first | apply Kd.N_alloc | apply Kd.N_drewN | apply Kd.N_drew)); exact HO_11.out) hb)
      have n3_ := Aside0.mk (Kd.V_below (by (with_reducible repeat (first | apply Kd.V_alloc | apply Kd.V_drewN | apply Kd.V_drew)); exact HO231.out) hb)
      have n4_ := Aside0.mk (Kd.V_below (by (with_reducible repeat (first | apply Kd.V_alloc | apply Kd.V_drewN | apply Kd.V_drew)); exact HO234.out) hb)
      have n5_ := Aside0.mk (Kd.V_lower (Kd.V_mono (ok' := fun k_ => ((P2_ k_ ∨ P3_ k_) ∨ w.heap.size ≤ k_) ∧ some k_ ≠ (.slice Ao36 y215.length co36 : Value).ownBlock ∧ k_ ≠ gb206) ho0 (fun k_ hk_ => ⟨(.inr (Nat.le_trans (below_size (by repeat (first | (with_reducible first | exact HB.out | apply below_alloc | apply pw_below_drewN | apply below_drew1 | refine below_set ?_ GE206.out) | exact HB.out))) hk_)), (Kd.fresh' (Kd.N_lt (by (with_reducible repeat (first | apply Kd.N_alloc | apply Kd.N_drewN | apply Kd.N_drew)); exact HO_11.out)) k_ hk_), (Kd.freshB (g := gb206) (o := .cells #[.int .i64 a0_0, .int .i64 a0_1, .int .i64 a0_2, .int .u64 a0_3, .int .u64 a0_4, .int .u64 a0_5] 24 (0, 0)) (by (with_reducible repeat (first | refine blk_drewN ?_ _ | refine blk_drew ?_ | refine blk_alloc ?_ _)); exact BK206.out) k_ hk_)⟩)) (below_size (by repeat (first | (with_reducible first | exact HB.out | apply below_alloc | apply pw_below_drewN | apply below_drew1 | refine below_set ?_ GE206.out) | exact HB.out))))
      have n6_ := Aside0.mk (blk_below (g := gb206) (o := .cells #[.int .i64 a0_0, .int .i64 a0_1, .int .i64 a0_2, .int .u64 a0_3, .int .u64 a0_4, .int .u64 a0_5] 24 (0, 0)) (by (with_reducible repeat (first | refine blk_drewN ?_ _ | refine blk_drew ?_ | refine blk_alloc ?_ _)); exact BK206.out) hb)
      have n7_ := Aside0.mk (below_step (by repeat (first | (with_reducible first | exact HB.out | apply below_alloc | apply pw_below_drewN | apply below_drew1 | refine below_set ?_ GE206.out) | exact HB.out)) hb)
      clear HO_2
      clear HO_3
      clear HO_11
      clear HO231
      clear HO234
      clear BK206
      clear HB
      have HO_2 := n0_
      have HO_3 := n1_
      have HO_11 := n2_
      have HO231 := n3_
      have HO234 := n4_
      have HO237 := n5_
      have BK206 := n6_
      have HB := n7_
      clear n0_ n1_ n2_ n3_ n4_ n5_ n6_ n7_
      (try clear hb)
      (try clear hb2)
      (try clear hk)
      (try clear hi)
      (try clear ho0)
      obtain ⟨Ao55, co55, eo55⟩ := Kd.V_slice HO231.out
      (first | subst eo55 | (injection eo55 with f1_ f2_ f3_; have f4_ := f1_.symm; have f5_ := f3_.symm; clear f1_ f2_ f3_; subst f4_; subst f5_))
      obtain ⟨Ao56, co56, eo56⟩ := Kd.V_slice HO237.out
      (first | subst eo56 | (injection eo56 with f1_ f2_ f3_; have f4_ := f1_.symm; have f5_ := f3_.symm; clear f1_ f2_ f3_; subst f4_; subst f5_))
      refine hK.out _ _ ⟨(blk_cell BK206.out 0).trans rfl, (blk_cell BK206.out 1).trans rfl, (blk_cell BK206.out 2).trans rfl, (blk_cell BK206.out 3).trans rfl, (blk_cell BK206.out 4).trans rfl, (blk_cell BK206.out 5).trans rfl⟩ (fun hHeld => ?_)
      clear hK K
      refine norm_ (a' := ?_) ?_ ?_
      rotate_left
      · show Act.put _ (some 79) _ = _
        simp only [Act.put, sA_, sB_, sC_, i64_w, i32_w]
        rfl
      refine one_ (i := 17) (N := some 80) #[true, true, true, true, true, true, true, true, true, true, true, true, true, true, true, true, true, true, false] rfl rfl (one_of HT_.out (by kernel_rfl)) (by decide) (fun K hK => ?_)
      refine goes_ Try.func7 (by kernel_rfl) rfl #[.slice Ao55 t229.length co55, .slice Ao56 t235.length co56] (by rfl) rfl rfl (by (try simp only [List.map_toArray, List.map_cons, List.map_nil]); first | done | rfl | (simp only [List.length_drop, List.length_take]; rfl)) ?_
      with_reducible refine (spec_SameText.calls _ _ t229 _ _ t235 t238 _ ?side1 ?side2 ?side3 ?side4 A48.out).mono ?_
      (case side1 => repeat (first | exact (Kd.V_reads' HO231.out).2.2 | (with_reducible refine Kd.C_alloc ?_ _) | (with_reducible refine Kd.C_drewN ?_ _) | (with_reducible refine Kd.C_drew ?_)))
      (case side2 => exact (Kd.V_reads' HO231.out).2.1)
      (case side3 => repeat (first | exact (Kd.V_reads' HO237.out).2.2 | (with_reducible refine Kd.C_alloc ?_ _) | (with_reducible refine Kd.C_drewN ?_ _) | (with_reducible refine Kd.C_drew ?_)))
      (case side4 => exact (Kd.V_reads' HO237.out).2.1)
      rintro e w' ⟨rfl, ⟨nd, rfl⟩⟩
      refine ⟨_, rfl, ?_⟩
      refine hK.out _ _ ⟨(blk_cell BK206.out 0).trans rfl, (blk_cell BK206.out 1).trans rfl, (blk_cell BK206.out 2).trans rfl, (blk_cell BK206.out 3).trans rfl, (blk_cell BK206.out 4).trans rfl, (blk_cell BK206.out 5).trans rfl⟩ (fun hHeld => ?_)
      clear hK K
      refine norm_ (a' := ?_) ?_ ?_
      rotate_left
      · show Act.put _ (some 80) _ = _
        simp only [Act.put, sA_, sB_, sC_, i64_w, i32_w]
        rfl
      refine pure_ (i := 18) (N := some 81) (v := ?_) (a' := ?_) #[true, true, true, true, true, true, true, true, true, true, true, true, true, true, true, true, true, true, true] rfl rfl (any_of HT_.out (by kernel_rfl)) (fun _ _ _ h => h) (Or.inl ⟨by rfl, ?_⟩) ?_ ?_
      rotate_left
      · intro w'
        go_simp
        with_reducible rfl
      rotate_left
      · simp only [Act.put, sA_, sB_, sC_, i64_w, i32_w]
        rfl
      refine done_ (done_of HT_.out (by kernel_rfl)) ?_
      go_upto_if 81 with (fail)
      go_cut [] (fun wc => ∃ (kq : Nat), Aside0 (laws_FnChainsInParts.j5 kq l1 l2 l3 y215 a0_0 a0_1 a0_2 a0_3 a0_4 a0_5 = some r) ∧ Aside0 (kq ≤ kj33) ∧ Aside0 (Kd.V (Kd.slice 5 (Kd.int .u8)) 25 wc w.heap.size (fun k_ => ((P2_ k_ ∨ P3_ k_) ∨ w.heap.size ≤ k_) ∧ some k_ ≠ ((.slice Ao36 y215.length co36) : Value).ownBlock ∧ k_ ≠ gb206) (.slice A2 l2.length c2) l2) ∧ Aside0 (Kd.V (Kd.slice 5 (Kd.int .u8)) 25 wc w.heap.size (fun k_ => ((P2_ k_ ∨ P3_ k_) ∨ w.heap.size ≤ k_) ∧ some k_ ≠ ((.slice Ao36 y215.length co36) : Value).ownBlock ∧ k_ ≠ gb206) (.slice A3 l3.length c3) l3) ∧ Aside0 (Kd.N (Kd.slice 5 (Kd.int .u8)) 25 wc w.heap.size (fun k_ => ((P2_ k_ ∨ P3_ k_) ∨ w.heap.size ≤ k_) ∧ k_ ≠ gb206) (.slice Ao36 y215.length co36) y215) ∧ Aside0 (wc.heap[gb206]? = some (.cells #[.int .i64 a0_0, .int .i64 a0_1, .int .i64 a0_2, .int .u64 a0_3, .int .u64 a0_4, .int .u64 a0_5] 24 (0, 0))) ∧ Aside0 (Below w.heap.size w wc))
      case first =>
        have H := HC49.out
        clear HC49
        by_cases c57 : t238 = true
        · subst c57
          have H1 : (laws_FnChainsInParts.j5 kj33 l1 l2 l3 y215 a0_0 a0_1 a0_2 a0_3 a0_4 a0_5) = some r := by rw [if_pos rfl] at H; exact H
          clear H
          have H := H1
          clear H1
          have H' := Aside0.mk H
          clear H
          go_wp2
          go_meet
          case rel => exact ⟨_, H', ⟨by have := HJ5.out; have := HJ11.out; have := HJ15.out; have := HJ26.out; have := HJ33.out; first | omega | exact Nat.le_refl _⟩, ⟨by (with_reducible repeat (first | apply Kd.V_alloc | apply Kd.V_drewN | apply Kd.V_drew)); exact HO_2.out⟩, ⟨by (with_reducible repeat (first | apply Kd.V_alloc | apply Kd.V_drewN | apply Kd.V_drew)); exact HO_3.out⟩, ⟨by (with_reducible repeat (first | apply Kd.N_alloc | apply Kd.N_drewN | apply Kd.N_drew)); exact HO_11.out⟩, ⟨by (with_reducible repeat (first | refine blk_drewN ?_ _ | refine blk_drew ?_ | refine blk_alloc ?_ _)); exact BK206.out⟩, ⟨by repeat (first | (with_reducible first | exact HB.out | apply below_alloc | apply pw_below_drewN | apply below_drew1 | refine below_set ?_ GE206.out) | exact HB.out)⟩⟩
        replace c57 := Bool.eq_false_iff.mpr c57
        subst c57
        have H1 : (some false) = some r := by rw [if_neg (show ¬ (false = true) by decide)] at H; exact H
        clear H
        have H := H1
        clear H1
        obtain rfl := Option.some.inj H
        go_wp2
        go_ret
        exact ⟨by first | rfl | (simp [errW_none, errW_some] <;> rfl) | (simp only [← hji31, ← hji46]; first | rfl | (simp [errW_none, errW_some] <;> rfl)) | (simp [*, errW_none, errW_some] <;> rfl), by repeat (first | (with_reducible first | exact HB.out | apply below_alloc | apply pw_below_drewN | apply below_drew1 | refine below_set ?_ GE206.out) | exact HB.out)⟩
      clear HC49
      try clear c1
      try clear c2
      try clear p2
      try clear c3
      try clear c4
      try clear c5
      try clear c6
      try clear c7
      try clear c8
      try clear c8b0
      try clear c8b1
      try clear c9
      try clear c10
      try clear c13
      try clear c14
      try clear c15
      try clear c22
      try clear c23
      try clear c23b0
      try clear c23b1
      try clear c28
      try clear c43
      try clear c57
      try clear p2
      obtain ⟨kq, HA, HJ48, HO_2, HO_3, HO_11, BK206, HB⟩ := hcut
      obtain _ | kj48 := kq
      · exact absurd HA.out (by simp [laws_FnChainsInParts.j5])
      have H := HA.out
      clear HA
      simp only [laws_FnChainsInParts.j5] at H
      replace H := Option.bind_eq_some_iff.mp H
      obtain ⟨t239, A580, H⟩ := H
      replace H : ((impl_ChainBorder.f kj48 a0_0 a0_1 a0_2 a0_3 a0_4 a0_5 l1 l2).bind fun t242 => ((impl_ChainBorder.f kj48 a0_0 a0_1 a0_2 a0_3 a0_4 a0_5 t242 l3).bind fun t245 => ((spec_SameText.f t239 t245).bind fun t248 => (if t248 = true then ((impl_ChainInner.f kj48 a0_0 a0_1 a0_2 a0_3 a0_4 a0_5 l1 y215 18446744073709551615).bind fun t249 => ((spec_SameText.f t239 t249).bind fun t252 => (if t252 = true then ((impl_ChainInnerRight.f kj48 a0_0 a0_1 a0_2 a0_3 a0_4 a0_5 l1 y215 18446744073709551615).bind fun t253 => ((spec_SameText.f t239 t253).bind fun t256 => (if t256 = true then ((impl_ChainInnerRight.f kj48 a0_0 a0_1 a0_2 a0_3 a0_4 a0_5 l1 y215 0).bind fun t257 => ((spec_SameText.f t257 l1).bind fun t260 => (some t260))) else (some false)))) else (some false)))) else (some false))))) = some r := H
      have A58 := Aside0.mk A580
      clear A580
      replace H := Option.bind_eq_some_iff.mp H
      obtain ⟨t242, A590, H⟩ := H
      replace H : ((impl_ChainBorder.f kj48 a0_0 a0_1 a0_2 a0_3 a0_4 a0_5 t242 l3).bind fun t245 => ((spec_SameText.f t239 t245).bind fun t248 => (if t248 = true then ((impl_ChainInner.f kj48 a0_0 a0_1 a0_2 a0_3 a0_4 a0_5 l1 y215 18446744073709551615).bind fun t249 => ((spec_SameText.f t239 t249).bind fun t252 => (if t252 = true then ((impl_ChainInnerRight.f kj48 a0_0 a0_1 a0_2 a0_3 a0_4 a0_5 l1 y215 18446744073709551615).bind fun t253 => ((spec_SameText.f t239 t253).bind fun t256 => (if t256 = true then ((impl_ChainInnerRight.f kj48 a0_0 a0_1 a0_2 a0_3 a0_4 a0_5 l1 y215 0).bind fun t257 => ((spec_SameText.f t257 l1).bind fun t260 => (some t260))) else (some false)))) else (some false)))) else (some false)))) = some r := H
      have A59 := Aside0.mk A590
      clear A590
      replace H := Option.bind_eq_some_iff.mp H
      obtain ⟨t245, A600, H⟩ := H
      replace H : ((spec_SameText.f t239 t245).bind fun t248 => (if t248 = true then ((impl_ChainInner.f kj48 a0_0 a0_1 a0_2 a0_3 a0_4 a0_5 l1 y215 18446744073709551615).bind fun t249 => ((spec_SameText.f t239 t249).bind fun t252 => (if t252 = true then ((impl_ChainInnerRight.f kj48 a0_0 a0_1 a0_2 a0_3 a0_4 a0_5 l1 y215 18446744073709551615).bind fun t253 => ((spec_SameText.f t239 t253).bind fun t256 => (if t256 = true then ((impl_ChainInnerRight.f kj48 a0_0 a0_1 a0_2 a0_3 a0_4 a0_5 l1 y215 0).bind fun t257 => ((spec_SameText.f t257 l1).bind fun t260 => (some t260))) else (some false)))) else (some false)))) else (some false))) = some r := H
      have A60 := Aside0.mk A600
      clear A600
      replace H := Option.bind_eq_some_iff.mp H
      obtain ⟨t248, A610, H⟩ := H
      replace H : (if t248 = true then ((impl_ChainInner.f kj48 a0_0 a0_1 a0_2 a0_3 a0_4 a0_5 l1 y215 18446744073709551615).bind fun t249 => ((spec_SameText.f t239 t249).bind fun t252 => (if t252 = true then ((impl_ChainInnerRight.f kj48 a0_0 a0_1 a0_2 a0_3 a0_4 a0_5 l1 y215 18446744073709551615).bind fun t253 => ((spec_SameText.f t239 t253).bind fun t256 => (if t256 = true then ((impl_ChainInnerRight.f kj48 a0_0 a0_1 a0_2 a0_3 a0_4 a0_5 l1 y215 0).bind fun t257 => ((spec_SameText.f t257 l1).bind fun t260 => (some t260))) else (some false)))) else (some false)))) else (some false)) = some r := H
      have A61 := Aside0.mk A610
      clear A610
      by_cases c62 : t248 = true
      · subst c62
        have H1 : ((impl_ChainInner.f kj48 a0_0 a0_1 a0_2 a0_3 a0_4 a0_5 l1 y215 18446744073709551615).bind fun t249 => ((spec_SameText.f t239 t249).bind fun t252 => (if t252 = true then ((impl_ChainInnerRight.f kj48 a0_0 a0_1 a0_2 a0_3 a0_4 a0_5 l1 y215 18446744073709551615).bind fun t253 => ((spec_SameText.f t239 t253).bind fun t256 => (if t256 = true then ((impl_ChainInnerRight.f kj48 a0_0 a0_1 a0_2 a0_3 a0_4 a0_5 l1 y215 0).bind fun t257 => ((spec_SameText.f t257 l1).bind fun t260 => (some t260))) else (some false)))) else (some false)))) = some r := by rw [if_pos rfl] at H; exact H
        clear H
        have H := H1
        clear H1
        replace H := Option.bind_eq_some_iff.mp H
        obtain ⟨t249, A630, H⟩ := H
        replace H : ((spec_SameText.f t239 t249).bind fun t252 => (if t252 = true then ((impl_ChainInnerRight.f kj48 a0_0 a0_1 a0_2 a0_3 a0_4 a0_5 l1 y215 18446744073709551615).bind fun t253 => ((spec_SameText.f t239 t253).bind fun t256 => (if t256 = true then ((impl_ChainInnerRight.f kj48 a0_0 a0_1 a0_2 a0_3 a0_4 a0_5 l1 y215 0).bind fun t257 => ((spec_SameText.f t257 l1).bind fun t260 => (some t260))) else (some false)))) else (some false))) = some r := H
        have A63 := Aside0.mk A630
        clear A630
        replace H := Option.bind_eq_some_iff.mp H
        obtain ⟨t252, A640, H⟩ := H
        replace H : (if t252 = true then ((impl_ChainInnerRight.f kj48 a0_0 a0_1 a0_2 a0_3 a0_4 a0_5 l1 y215 18446744073709551615).bind fun t253 => ((spec_SameText.f t239 t253).bind fun t256 => (if t256 = true then ((impl_ChainInnerRight.f kj48 a0_0 a0_1 a0_2 a0_3 a0_4 a0_5 l1 y215 0).bind fun t257 => ((spec_SameText.f t257 l1).bind fun t260 => (some t260))) else (some false)))) else (some false)) = some r := H
        have A64 := Aside0.mk A640
        clear A640
        by_cases c65 : t252 = true
        · subst c65
          have H1 : ((impl_ChainInnerRight.f kj48 a0_0 a0_1 a0_2 a0_3 a0_4 a0_5 l1 y215 18446744073709551615).bind fun t253 => ((spec_SameText.f t239 t253).bind fun t256 => (if t256 = true then ((impl_ChainInnerRight.f kj48 a0_0 a0_1 a0_2 a0_3 a0_4 a0_5 l1 y215 0).bind fun t257 => ((spec_SameText.f t257 l1).bind fun t260 => (some t260))) else (some false)))) = some r := by rw [if_pos rfl] at H; exact H
          clear H
          have H := H1
          clear H1
          replace H := Option.bind_eq_some_iff.mp H
          obtain ⟨t253, A660, H⟩ := H
          replace H : ((spec_SameText.f t239 t253).bind fun t256 => (if t256 = true then ((impl_ChainInnerRight.f kj48 a0_0 a0_1 a0_2 a0_3 a0_4 a0_5 l1 y215 0).bind fun t257 => ((spec_SameText.f t257 l1).bind fun t260 => (some t260))) else (some false))) = some r := H
          have A66 := Aside0.mk A660
          clear A660
          replace H := Option.bind_eq_some_iff.mp H
          obtain ⟨t256, A670, H⟩ := H
          replace H : (if t256 = true then ((impl_ChainInnerRight.f kj48 a0_0 a0_1 a0_2 a0_3 a0_4 a0_5 l1 y215 0).bind fun t257 => ((spec_SameText.f t257 l1).bind fun t260 => (some t260))) else (some false)) = some r := H
          have A67 := Aside0.mk A670
          clear A670
          by_cases c68 : t256 = true
          · subst c68
            have H1 : ((impl_ChainInnerRight.f kj48 a0_0 a0_1 a0_2 a0_3 a0_4 a0_5 l1 y215 0).bind fun t257 => ((spec_SameText.f t257 l1).bind fun t260 => (some t260))) = some r := by rw [if_pos rfl] at H; exact H
            clear H
            have H := H1
            clear H1
            replace H := Option.bind_eq_some_iff.mp H
            obtain ⟨t257, A690, H⟩ := H
            replace H : ((spec_SameText.f t257 l1).bind fun t260 => (some t260)) = some r := H
            have A69 := Aside0.mk A690
            clear A690
            replace H := Option.bind_eq_some_iff.mp H
            obtain ⟨t260, A700, H⟩ := H
            replace H : (some t260) = some r := H
            have A70 := Aside0.mk A700
            clear A700
            obtain rfl := Option.some.inj H
            have hcz71_0 : wc.cell? ⟨gb206, 0, none⟩ = some (.int .i64 a0_0) := (blk_cell BK206.out 0).trans rfl
            have hcz71_1 : wc.cell? ⟨gb206, 1, none⟩ = some (.int .i64 a0_1) := (blk_cell BK206.out 1).trans rfl
            have hcz71_2 : wc.cell? ⟨gb206, 2, none⟩ = some (.int .i64 a0_2) := (blk_cell BK206.out 2).trans rfl
            have hcz71_3 : wc.cell? ⟨gb206, 3, none⟩ = some (.int .u64 a0_3) := (blk_cell BK206.out 3).trans rfl
            have hcz71_4 : wc.cell? ⟨gb206, 4, none⟩ = some (.int .u64 a0_4) := (blk_cell BK206.out 4).trans rfl
            have hcz71_5 : wc.cell? ⟨gb206, 5, none⟩ = some (.int .u64 a0_5) := (blk_cell BK206.out 5).trans rfl
            have hfz71_0 := blk_frozen BK206.out 0
            have hfz71_1 := blk_frozen BK206.out 1
            have hfz71_2 := blk_frozen BK206.out 2
            have hfz71_3 := blk_frozen BK206.out 3
            have hfz71_4 := blk_frozen BK206.out 4
            have hfz71_5 := blk_frozen BK206.out 5
            try go_wp2_with (first | ((with_reducible refine gate_callee (f := 10) rfl ?_); refine goesL_ (some 85) rfl rfl Try.func10 (by kernel_rfl) rfl #[.agg #[.int .i64 a0_0, .int .i64 a0_1, .int .i64 a0_2, .int .u64 a0_3, .int .u64 a0_4, .int .u64 a0_5], .slice A1 l1.length c1, .slice Ao36 y215.length co36] rfl (by (try simp only [List.map_toArray, List.map_cons, List.map_nil]); first | done | rfl | (simp only [List.length_drop, List.length_take]; rfl)) ?_; (with_reducible refine (impl_ChainBorder.calls kj48 a0_0 a0_1 a0_2 a0_3 a0_4 a0_5 _ _ l1 _ _ y215 t239 _ ?side1 ?side2 ?side3 ?side4 A58.out).mono ?_); (case side1 => repeat (first | exact (Kd.C_below HR1.out HB.out) | (with_reducible refine Kd.C_alloc ?_ _) | (with_reducible refine Kd.C_drewN ?_ _) | (with_reducible refine Kd.C_drew ?_))); (case side2 => exact HC1.out); (case side3 => repeat (first | exact (Kd.N_reads' HO_11.out).2.2 | (with_reducible refine Kd.C_alloc ?_ _) | (with_reducible refine Kd.C_drewN ?_ _) | (with_reducible refine Kd.C_drew ?_))); (case side4 => exact (Kd.N_reads' HO_11.out).2.1); rintro e w72 ⟨v240, rfl, ho0, hb⟩; refine ⟨_, rfl, ?_⟩; have n0_ := Aside0.mk (Kd.V_below (by (with_reducible repeat (first | apply Kd.V_alloc | apply Kd.V_drewN | apply Kd.V_drew)); exact HO_2.out) hb); have n1_ := Aside0.mk (Kd.V_below (by (with_reducible repeat (first | apply Kd.V_alloc | apply Kd.V_drewN | apply Kd.V_drew)); exact HO_3.out) hb); have n2_ := Aside0.mk (Kd.N_below (by (with_reducible repeat (first | apply Kd.N_alloc | apply Kd.N_drewN | apply Kd.N_drew)); exact HO_11.out) hb); have n3_ := Aside0.mk (Kd.V_lower (Kd.V_mono (ok' := fun k_ => ((P2_ k_ ∨ P3_ k_) ∨ w.heap.size ≤ k_) ∧ some k_ ≠ (.slice Ao36 y215.length co36 : Value).ownBlock ∧ k_ ≠ gb206) ho0 (fun k_ hk_ => ⟨(.inr (Nat.le_trans (below_size (by repeat (first | (with_reducible first | exact HB.out | apply below_alloc | apply pw_below_drewN | apply below_drew1 | refine below_set ?_ GE206.out) | exact HB.out))) hk_)), (Kd.fresh' (Kd.N_lt (by (with_reducible repeat (first | apply Kd.N_alloc | apply Kd.N_drewN | apply Kd.N_drew)); exact HO_11.out)) k_ hk_), (Kd.freshB (g := gb206) (o := .cells #[.int .i64 a0_0, .int .i64 a0_1, .int .i64 a0_2, .int .u64 a0_3, .int .u64 a0_4, .int .u64 a0_5] 24 (0, 0)) (by (with_reducible repeat (first | refine blk_drewN ?_ _ | refine blk_drew ?_ | refine blk_alloc ?_ _)); exact BK206.out) k_ hk_)⟩)) (below_size (by repeat (first | (with_reducible first | exact HB.out | apply below_alloc | apply pw_below_drewN | apply below_drew1 | refine below_set ?_ GE206.out) | exact HB.out)))); have n4_ := Aside0.mk (blk_below (g := gb206) (o := .cells #[.int .i64 a0_0, .int .i64 a0_1, .int .i64 a0_2, .int .u64 a0_3, .int .u64 a0_4, .int .u64 a0_5] 24 (0, 0)) (by (with_reducible repeat (first | refine blk_drewN ?_ _ | refine blk_drew ?_ | refine blk_alloc ?_ _)); exact BK206.out) hb); have n5_ := Aside0.mk (below_step (by repeat (first | (with_reducible first | exact HB.out | apply below_alloc | apply pw_below_drewN | apply below_drew1 | refine below_set ?_ GE206.out) | exact HB.out)) hb); clear HO_2; clear HO_3; clear HO_11; clear BK206; clear HB; have HO_2 := n0_; have HO_3 := n1_; have HO_11 := n2_; have HO241 := n3_; have BK206 := n4_; have HB := n5_; clear n0_ n1_ n2_ n3_ n4_ n5_; (try clear hb); (try clear hb2); (try clear hk); (try clear hi); (try clear ho0)))
            have n0_ := Aside0.mk (Kd.V_drew HO_2.out)
            have n1_ := Aside0.mk (Kd.V_drew HO_3.out)
            have n2_ := Aside0.mk (Kd.N_drew HO_11.out)
            have n3_ := Aside0.mk (Kd.V_drew HO241.out)
            have n4_ := Aside0.mk (blk_drew BK206.out)
            have n5_ := Aside0.mk (below_drew1 HB.out)
            clear HO_2
            clear HO_3
            clear HO_11
            clear HO241
            clear BK206
            clear HB
            have HO_2 := n0_
            have HO_3 := n1_
            have HO_11 := n2_
            have HO241 := n3_
            have BK206 := n4_
            have HB := n5_
            clear n0_ n1_ n2_ n3_ n4_ n5_
            refine start_ (n := 34) (S := fun w' => w'.cell? ⟨gb206, 0, none⟩ = some (.int .i64 a0_0) ∧ w'.cell? ⟨gb206, 1, none⟩ = some (.int .i64 a0_1) ∧ w'.cell? ⟨gb206, 2, none⟩ = some (.int .i64 a0_2) ∧ w'.cell? ⟨gb206, 3, none⟩ = some (.int .u64 a0_3) ∧ w'.cell? ⟨gb206, 4, none⟩ = some (.int .u64 a0_4) ∧ w'.cell? ⟨gb206, 5, none⟩ = some (.int .u64 a0_5)) (ds := []) #[false, false, false, false, false, false, false, false, false, false, false, false, false, false, false, false, false, false, false, false, false, false, false, false, false, false, false, false, false, false, false, false, false, false] (by kernel_rfl) rfl rfl ⟨(blk_cell BK206.out 0).trans rfl, (blk_cell BK206.out 1).trans rfl, (blk_cell BK206.out 2).trans rfl, (blk_cell BK206.out 3).trans rfl, (blk_cell BK206.out 4).trans rfl, (blk_cell BK206.out 5).trans rfl⟩ (fun hHeld => ?_); refine with_tabW laws_FnChainsInParts.tab11 laws_FnChainsInParts.bits11 (fun HT_ HW_ => ?_)
            generalize w72.drew = w73 at HO_2 HO_3 HO_11 HO241 BK206 HB hHeld ⊢
            refine pure_ (i := 0) (N := some 86) (v := ?_) (a' := ?_) #[true, false, false, false, false, false, false, false, false, false, false, false, false, false, false, false, false, false, false, false, false, false, false, false, false, false, false, false, false, false, false, false, false, false] rfl rfl (any_of HT_.out (by kernel_rfl)) (fun _ _ _ h => h) (Or.inl ⟨by rfl, ?_⟩) ?_ ?_
            rotate_left
            · intro w'
              go_simp
              with_reducible rfl
            rotate_left
            · simp only [Act.put, sA_, sB_, sC_, i64_w, i32_w]
              rfl
            refine pure_ (i := 3) (N := some 89) (v := ?_) (a' := ?_) #[true, false, false, true, false, false, false, false, false, false, false, false, false, false, false, false, false, false, false, false, false, false, false, false, false, false, false, false, false, false, false, false, false, false] rfl rfl (any_of HT_.out (by kernel_rfl)) (fun _ _ _ h => h) (Or.inl ⟨by rfl, ?_⟩) ?_ ?_
            rotate_left
            · intro w'
              go_simp
              with_reducible rfl
            rotate_left
            · simp only [Act.put, sA_, sB_, sC_, i64_w, i32_w]
              rfl
            refine pure_ (i := 4) (N := some 90) (v := ?_) (a' := ?_) #[true, false, false, true, true, false, false, false, false, false, false, false, false, false, false, false, false, false, false, false, false, false, false, false, false, false, false, false, false, false, false, false, false, false] rfl rfl (any_of HT_.out (by kernel_rfl)) (fun _ _ _ h => h) (Or.inl ⟨by rfl, ?_⟩) ?_ ?_
            rotate_left
            · intro w'
              go_simp
              with_reducible rfl
            rotate_left
            · simp only [Act.put, sA_, sB_, sC_, i64_w, i32_w]
              rfl
            refine pure_ (i := 6) (N := some 92) (v := ?_) (a' := ?_) #[true, false, false, true, true, false, true, false, false, false, false, false, false, false, false, false, false, false, false, false, false, false, false, false, false, false, false, false, false, false, false, false, false, false] rfl rfl (any_of HT_.out (by kernel_rfl)) (fun _ _ _ h => h) (Or.inl ⟨by rfl, ?_⟩) ?_ ?_
            rotate_left
            · intro w'
              go_simp
              with_reducible rfl
            rotate_left
            · simp only [Act.put, sA_, sB_, sC_, i64_w, i32_w]
              rfl
            refine take_ (i := 1) (N := some 87) (v := ?_) (a' := ?_) #[true, true, false, true, true, false, true, false, false, false, false, false, false, false, false, false, false, false, false, false, false, false, false, false, false, false, false, false, false, false, false, false, false, false] rfl rfl (take_ofW HT_.out HW_.out (by kernel_rfl)) (fun _ _ _ h => h) (Or.inl ⟨by rfl, ?_⟩) hHeld ?_ ?_
            rotate_left
            · rintro w' ⟨s0, s1, s2, s3, s4, s5⟩
              go_simp
              with_reducible rfl
            rotate_left
            · simp only [Act.put, sA_, sB_, sC_, i64_w, i32_w]
              rfl
            refine take_ (i := 2) (N := some 88) (v := ?_) (a' := ?_) #[true, true, true, true, true, false, true, false, false, false, false, false, false, false, false, false, false, false, false, false, false, false, false, false, false, false, false, false, false, false, false, false, false, false] rfl rfl (take_ofW HT_.out HW_.out (by kernel_rfl)) (fun _ _ _ h => h) (Or.inl ⟨by rfl, ?_⟩) hHeld ?_ ?_
            rotate_left
            · rintro w' ⟨s0, s1, s2, s3, s4, s5⟩
              go_simp
              with_reducible rfl
            rotate_left
            · simp only [Act.put, sA_, sB_, sC_, i64_w, i32_w]
              rfl
            refine one_ (i := 5) (N := some 91) #[true, true, true, true, true, true, true, false, false, false, false, false, false, false, false, false, false, false, false, false, false, false, false, false, false, false, false, false, false, false, false, false, false, false] rfl rfl (one_of HT_.out (by kernel_rfl)) (by decide) (fun K hK => ?_)
            refine goes_ Try.func10 (by kernel_rfl) rfl #[.agg #[.int .i64 a0_0, .int .i64 a0_1, .int .i64 a0_2, .int .u64 a0_3, .int .u64 a0_4, .int .u64 a0_5], .slice A1 l1.length c1, .slice A2 l2.length c2] (by rfl) rfl rfl (by (try simp only [List.map_toArray, List.map_cons, List.map_nil]); first | done | rfl | (simp only [List.length_drop, List.length_take]; rfl)) ?_
            with_reducible refine (impl_ChainBorder.calls kj48 a0_0 a0_1 a0_2 a0_3 a0_4 a0_5 _ _ l1 _ _ l2 t242 _ ?side1 ?side2 ?side3 ?side4 A59.out).mono ?_
            (case side1 => repeat (first | exact (Kd.C_below HR1.out HB.out) | (with_reducible refine Kd.C_alloc ?_ _) | (with_reducible refine Kd.C_drewN ?_ _) | (with_reducible refine Kd.C_drew ?_)))
            (case side2 => exact HC1.out)
            (case side3 => repeat (first | exact (Kd.V_reads' HO_2.out).2.2 | (with_reducible refine Kd.C_alloc ?_ _) | (with_reducible refine Kd.C_drewN ?_ _) | (with_reducible refine Kd.C_drew ?_)))
            (case side4 => exact (Kd.V_reads' HO_2.out).2.1)
            rintro e w74 ⟨v243, rfl, ho0, hb⟩
            refine ⟨_, rfl, ?_⟩
            have n0_ := Aside0.mk (Kd.V_below (by (with_reducible repeat (first | apply Kd.V_alloc | apply Kd.V_drewN | apply Kd.V_drew)); exact HO_2.out) hb)
            have n1_ := Aside0.mk (Kd.V_below (by (with_reducible repeat (first | apply Kd.V_alloc | apply Kd.V_drewN | apply Kd.V_drew)); exact HO_3.out) hb)
            have n2_ := Aside0.mk (Kd.N_below (by (with_reducible repeat (first | apply Kd.N_alloc | apply Kd.N_drewN | apply Kd.N_drew)); exact HO_11.out) hb)
            have n3_ := Aside0.mk (Kd.V_below (by (with_reducible repeat (first | apply Kd.V_alloc | apply Kd.V_drewN | apply Kd.V_drew)); exact HO241.out) hb)
            have n4_ := Aside0.mk (Kd.V_lower (Kd.V_mono (ok' := fun k_ => ((P2_ k_ ∨ P3_ k_) ∨ w.heap.size ≤ k_) ∧ some k_ ≠ (.slice Ao36 y215.length co36 : Value).ownBlock ∧ k_ ≠ gb206) ho0 (fun k_ hk_ => ⟨(.inr (Nat.le_trans (below_size (by repeat (first | (with_reducible first | exact HB.out | apply below_alloc | apply pw_below_drewN | apply below_drew1 | refine below_set ?_ GE206.out) | exact HB.out))) hk_)), (Kd.fresh' (Kd.N_lt (by (with_reducible repeat (first | apply Kd.N_alloc | apply Kd.N_drewN | apply Kd.N_drew)); exact HO_11.out)) k_ hk_), (Kd.freshB (g := gb206) (o := .cells #[.int .i64 a0_0, .int .i64 a0_1, .int .i64 a0_2, .int .u64 a0_3, .int .u64 a0_4, .int .u64 a0_5] 24 (0, 0)) (by (with_reducible repeat (first | refine blk_drewN ?_ _ | refine blk_drew ?_ | refine blk_alloc ?_ _)); exact BK206.out) k_ hk_)⟩)) (below_size (by repeat (first | (with_reducible first | exact HB.out | apply below_alloc | apply pw_below_drewN | apply below_drew1 | refine below_set ?_ GE206.out) | exact HB.out))))
            have n5_ := Aside0.mk (blk_below (g := gb206) (o := .cells #[.int .i64 a0_0, .int .i64 a0_1, .int .i64 a0_2, .int .u64 a0_3, .int .u64 a0_4, .int .u64 a0_5] 24 (0, 0)) (by (with_reducible repeat (first | refine blk_drewN ?_ _ | refine blk_drew ?_ | refine blk_alloc ?_ _)); exact BK206.out) hb)
            have n6_ := Aside0.mk (below_step (by repeat (first | (with_reducible first | exact HB.out | apply below_alloc | apply pw_below_drewN | apply below_drew1 | refine below_set ?_ GE206.out) | exact HB.out)) hb)
            clear HO_2
            clear HO_3
            clear HO_11
            clear HO241
            clear BK206
            clear HB
            have HO_2 := n0_
            have HO_3 := n1_
            have HO_11 := n2_
            have HO241 := n3_
            have HO244 := n4_
            have BK206 := n5_
            have HB := n6_
            clear n0_ n1_ n2_ n3_ n4_ n5_ n6_
            (try clear hb)
            (try clear hb2)
            (try clear hk)
            (try clear hi)
            (try clear ho0)
            obtain ⟨Ao75, co75, eo75⟩ := Kd.V_slice HO244.out
            (first | subst eo75 | (injection eo75 with f1_ f2_ f3_; have f4_ := f1_.symm; have f5_ := f3_.symm; clear f1_ f2_ f3_; subst f4_; subst f5_))
            refine hK.out _ _ ⟨(blk_cell BK206.out 0).trans rfl, (blk_cell BK206.out 1).trans rfl, (blk_cell BK206.out 2).trans rfl, (blk_cell BK206.out 3).trans rfl, (blk_cell BK206.out 4).trans rfl, (blk_cell BK206.out 5).trans rfl⟩ (fun hHeld => ?_)
            clear hK K
            refine norm_ (a' := ?_) ?_ ?_
            rotate_left
            · show Act.put _ (some 91) _ = _
              simp only [Act.put, sA_, sB_, sC_, i64_w, i32_w]
              rfl
            refine one_ (i := 7) (N := some 93) #[true, true, true, true, true, true, true, true, false, false, false, false, false, false, false, false, false, false, false, false, false, false, false, false, false, false, false, false, false, false, false, false, false, false] rfl rfl (one_of HT_.out (by kernel_rfl)) (by decide) (fun K hK => ?_)
            refine goes_ Try.func10 (by kernel_rfl) rfl #[.agg #[.int .i64 a0_0, .int .i64 a0_1, .int .i64 a0_2, .int .u64 a0_3, .int .u64 a0_4, .int .u64 a0_5], .slice Ao75 t242.length co75, .slice A3 l3.length c3] (by rfl) rfl rfl (by (try simp only [List.map_toArray, List.map_cons, List.map_nil]); first | done | rfl | (simp only [List.length_drop, List.length_take]; rfl)) ?_
            with_reducible refine (impl_ChainBorder.calls kj48 a0_0 a0_1 a0_2 a0_3 a0_4 a0_5 _ _ t242 _ _ l3 t245 _ ?side1 ?side2 ?side3 ?side4 A60.out).mono ?_
            (case side1 => repeat (first | exact (Kd.V_reads' HO244.out).2.2 | (with_reducible refine Kd.C_alloc ?_ _) | (with_reducible refine Kd.C_drewN ?_ _) | (with_reducible refine Kd.C_drew ?_)))
            (case side2 => exact (Kd.V_reads' HO244.out).2.1)
            (case side3 => repeat (first | exact (Kd.V_reads' HO_3.out).2.2 | (with_reducible refine Kd.C_alloc ?_ _) | (with_reducible refine Kd.C_drewN ?_ _) | (with_reducible refine Kd.C_drew ?_)))
            (case side4 => exact (Kd.V_reads' HO_3.out).2.1)
            rintro e w76 ⟨v246, rfl, ho0, hb⟩
            refine ⟨_, rfl, ?_⟩
            have n0_ := Aside0.mk (Kd.V_below (by (with_reducible repeat (first | apply Kd.V_alloc | apply Kd.V_drewN | apply Kd.V_drew)); exact HO_2.out) hb)
            have n1_ := Aside0.mk (Kd.V_below (by (with_reducible repeat (first | apply Kd.V_alloc | apply Kd.V_drewN | apply Kd.V_drew)); exact HO_3.out) hb)
            have n2_ := Aside0.mk (Kd.N_below (by (with_reducible repeat (first | apply Kd.N_alloc | apply Kd.N_drewN | apply Kd.N_drew)); exact HO_11.out) hb)
            have n3_ := Aside0.mk (Kd.V_below (by (with_reducible repeat (first | apply Kd.V_alloc | apply Kd.V_drewN | apply Kd.V_drew)); exact HO241.out) hb)
            have n4_ := Aside0.mk (Kd.V_below (by (with_reducible repeat (first | apply Kd.V_alloc | apply Kd.V_drewN | apply Kd.V_drew)); exact HO244.out) hb)
            have n5_ := Aside0.mk (Kd.V_lower (Kd.V_mono (ok' := fun k_ => ((P2_ k_ ∨ P3_ k_) ∨ w.heap.size ≤ k_) ∧ some k_ ≠ (.slice Ao36 y215.length co36 : Value).ownBlock ∧ k_ ≠ gb206) ho0 (fun k_ hk_ => ⟨(.inr (Nat.le_trans (below_size (by repeat (first | (with_reducible first | exact HB.out | apply below_alloc | apply pw_below_drewN | apply below_drew1 | refine below_set ?_ GE206.out) | exact HB.out))) hk_)), (Kd.fresh' (Kd.N_lt (by (with_reducible repeat (first | apply Kd.N_alloc | apply Kd.N_drewN | apply Kd.N_drew)); exact HO_11.out)) k_ hk_), (Kd.freshB (g := gb206) (o := .cells #[.int .i64 a0_0, .int .i64 a0_1, .int .i64 a0_2, .int .u64 a0_3, .int .u64 a0_4, .int .u64 a0_5] 24 (0, 0)) (by (with_reducible repeat (first | refine blk_drewN ?_ _ | refine blk_drew ?_ | refine blk_alloc ?_ _)); exact BK206.out) k_ hk_)⟩)) (below_size (by repeat (first | (with_reducible first | exact HB.out | apply below_alloc | apply pw_below_drewN | apply below_drew1 | refine below_set ?_ GE206.out) | exact HB.out))))
            have n6_ := Aside0.mk (blk_below (g := gb206) (o := .cells #[.int .i64 a0_0, .int .i64 a0_1, .int .i64 a0_2, .int .u64 a0_3, .int .u64 a0_4, .int .u64 a0_5] 24 (0, 0)) (by (with_reducible repeat (first | refine blk_drewN ?_ _ | refine blk_drew ?_ | refine blk_alloc ?_ _)); exact BK206.out) hb)
            have n7_ := Aside0.mk (below_step (by repeat (first | (with_reducible first | exact HB.out | apply below_alloc | apply pw_below_drewN | apply below_drew1 | refine below_set ?_ GE206.out) | exact HB.out)) hb)
            clear HO_2
            clear HO_3
            clear HO_11
            clear HO241
            clear HO244
            clear BK206
            clear HB
            have HO_2 := n0_
            have HO_3 := n1_
            have HO_11 := n2_
            have HO241 := n3_
            have HO244 := n4_
            have HO247 := n5_
            have BK206 := n6_
            have HB := n7_
            clear n0_ n1_ n2_ n3_ n4_ n5_ n6_ n7_
            (try clear hb)
            (try clear hb2)
            (try clear hk)
            (try clear hi)
            (try clear ho0)
            obtain ⟨Ao77, co77, eo77⟩ := Kd.V_slice HO241.out
            (first | subst eo77 | (injection eo77 with f1_ f2_ f3_; have f4_ := f1_.symm; have f5_ := f3_.symm; clear f1_ f2_ f3_; subst f4_; subst f5_))
            obtain ⟨Ao78, co78, eo78⟩ := Kd.V_slice HO247.out
            (first | subst eo78 | (injection eo78 with f1_ f2_ f3_; have f4_ := f1_.symm; have f5_ := f3_.symm; clear f1_ f2_ f3_; subst f4_; subst f5_))
            refine hK.out _ _ ⟨(blk_cell BK206.out 0).trans rfl, (blk_cell BK206.out 1).trans rfl, (blk_cell BK206.out 2).trans rfl, (blk_cell BK206.out 3).trans rfl, (blk_cell BK206.out 4).trans rfl, (blk_cell BK206.out 5).trans rfl⟩ (fun hHeld => ?_)
            clear hK K
            refine norm_ (a' := ?_) ?_ ?_
            rotate_left
            · show Act.put _ (some 93) _ = _
              simp only [Act.put, sA_, sB_, sC_, i64_w, i32_w]
              rfl
            refine one_ (i := 8) (N := some 94) #[true, true, true, true, true, true, true, true, true, false, false, false, false, false, false, false, false, false, false, false, false, false, false, false, false, false, false, false, false, false, false, false, false, false] rfl rfl (one_of HT_.out (by kernel_rfl)) (by decide) (fun K hK => ?_)
            refine goes_ Try.func7 (by kernel_rfl) rfl #[.slice Ao77 t239.length co77, .slice Ao78 t245.length co78] (by rfl) rfl rfl (by (try simp only [List.map_toArray, List.map_cons, List.map_nil]); first | done | rfl | (simp only [List.length_drop, List.length_take]; rfl)) ?_
            with_reducible refine (spec_SameText.calls _ _ t239 _ _ t245 true _ ?side1 ?side2 ?side3 ?side4 A61.out).mono ?_
            (case side1 => repeat (first | exact (Kd.V_reads' HO241.out).2.2 | (with_reducible refine Kd.C_alloc ?_ _) | (with_reducible refine Kd.C_drewN ?_ _) | (with_reducible refine Kd.C_drew ?_)))
            (case side2 => exact (Kd.V_reads' HO241.out).2.1)
            (case side3 => repeat (first | exact (Kd.V_reads' HO247.out).2.2 | (with_reducible refine Kd.C_alloc ?_ _) | (with_reducible refine Kd.C_drewN ?_ _) | (with_reducible refine Kd.C_drew ?_)))
            (case side4 => exact (Kd.V_reads' HO247.out).2.1)
            rintro e w' ⟨rfl, ⟨nd, rfl⟩⟩
            refine ⟨_, rfl, ?_⟩
            refine hK.out _ _ ⟨(blk_cell BK206.out 0).trans rfl, (blk_cell BK206.out 1).trans rfl, (blk_cell BK206.out 2).trans rfl, (blk_cell BK206.out 3).trans rfl, (blk_cell BK206.out 4).trans rfl, (blk_cell BK206.out 5).trans rfl⟩ (fun hHeld => ?_)
            clear hK K
            refine norm_ (a' := ?_) ?_ ?_
            rotate_left
            · show Act.put _ (some 94) _ = _
              simp only [Act.put, sA_, sB_, sC_, i64_w, i32_w]
              rfl
            refine pure_ (i := 9) (N := some 95) (v := ?_) (a' := ?_) #[true, true, true, true, true, true, true, true, true, true, false, false, false, false, false, false, false, false, false, false, false, false, false, false, false, false, false, false, false, false, false, false, false, false] rfl rfl (any_of HT_.out (by kernel_rfl)) (fun _ _ _ h => h) (Or.inl ⟨by rfl, ?_⟩) ?_ ?_
            rotate_left
            · intro w'
              go_simp
              with_reducible rfl
            rotate_left
            · simp only [Act.put, sA_, sB_, sC_, i64_w, i32_w]
              rfl
            refine pure_ (i := 10) (N := some 96) (v := ?_) (a' := ?_) #[true, true, true, true, true, true, true, true, true, true, true, false, false, false, false, false, false, false, false, false, false, false, false, false, false, false, false, false, false, false, false, false, false, false] rfl rfl (any_of HT_.out (by kernel_rfl)) (fun _ _ _ h => h) (Or.inl ⟨by rfl, ?_⟩) ?_ ?_
            rotate_left
            · intro w'
              go_simp
              with_reducible rfl
            rotate_left
            · simp only [Act.put, sA_, sB_, sC_, i64_w, i32_w]
              rfl
            refine pure_ (i := 12) (N := some 98) (v := ?_) (a' := ?_) #[true, true, true, true, true, true, true, true, true, true, true, false, true, false, false, false, false, false, false, false, false, false, false, false, false, false, false, false, false, false, false, false, false, false] rfl rfl (any_of HT_.out (by kernel_rfl)) (fun _ _ _ h => h) (Or.inl ⟨by rfl, ?_⟩) ?_ ?_
            rotate_left
            · intro w'
              go_simp
              with_reducible rfl
            rotate_left
            · simp only [Act.put, sA_, sB_, sC_, i64_w, i32_w]
              rfl
            refine pure_ (i := 13) (N := some 99) (v := ?_) (a' := ?_) #[true, true, true, true, true, true, true, true, true, true, true, false, true, true, false, false, false, false, false, false, false, false, false, false, false, false, false, false, false, false, false, false, false, false] rfl rfl (any_of HT_.out (by kernel_rfl)) (fun _ _ _ h => h) (Or.inl ⟨by rfl, ?_⟩) ?_ ?_
            rotate_left
            · intro w'
              go_simp
              with_reducible rfl
            rotate_left
            · simp only [Act.put, sA_, sB_, sC_, i64_w, i32_w]
              rfl
            refine take_ (i := 11) (N := some 97) (v := ?_) (a' := ?_) #[true, true, true, true, true, true, true, true, true, true, true, true, true, true, false, false, false, false, false, false, false, false, false, false, false, false, false, false, false, false, false, false, false, false] rfl rfl (take_ofW HT_.out HW_.out (by kernel_rfl)) (fun _ _ _ h => h) (Or.inl ⟨by rfl, ?_⟩) hHeld ?_ ?_
            rotate_left
            · rintro w' ⟨s0, s1, s2, s3, s4, s5⟩
              go_simp
              with_reducible rfl
            rotate_left
            · simp only [Act.put, sA_, sB_, sC_, i64_w, i32_w]
              rfl
            refine one_ (i := 14) (N := some 100) #[true, true, true, true, true, true, true, true, true, true, true, true, true, true, true, false, false, false, false, false, false, false, false, false, false, false, false, false, false, false, false, false, false, false] rfl rfl (one_of HT_.out (by kernel_rfl)) (by decide) (fun K hK => ?_)
            refine goes_ Try.func8 (by kernel_rfl) rfl #[.agg #[.int .i64 a0_0, .int .i64 a0_1, .int .i64 a0_2, .int .u64 a0_3, .int .u64 a0_4, .int .u64 a0_5], .slice A1 l1.length c1, .slice Ao36 y215.length co36, .int .u64 18446744073709551615] (by rfl) rfl rfl (by (try simp only [List.map_toArray, List.map_cons, List.map_nil]); first | done | rfl | (simp only [List.length_drop, List.length_take]; rfl)) ?_
            with_reducible refine (impl_ChainInner.calls kj48 a0_0 a0_1 a0_2 a0_3 a0_4 a0_5 _ _ l1 _ _ y215 18446744073709551615 t249 _ ?side1 ?side2 ?side3 ?side4 A63.out).mono ?_
            (case side1 => repeat (first | exact (Kd.C_below HR1.out (by repeat (first | (with_reducible first | exact HB.out | apply below_alloc | apply pw_below_drewN | apply below_drew1 | refine below_set ?_ GE206.out) | exact HB.out))) | (with_reducible refine Kd.C_alloc ?_ _) | (with_reducible refine Kd.C_drewN ?_ _) | (with_reducible refine Kd.C_drew ?_)))
            (case side2 => exact HC1.out)
            (case side3 => repeat (first | exact (Kd.N_reads' HO_11.out).2.2 | (with_reducible refine Kd.C_alloc ?_ _) | (with_reducible refine Kd.C_drewN ?_ _) | (with_reducible refine Kd.C_drew ?_)))
            (case side4 => exact (Kd.N_reads' HO_11.out).2.1)
            rintro e w79 ⟨v250, rfl, ho0, hb⟩
            refine ⟨_, rfl, ?_⟩
            have n0_ := Aside0.mk (Kd.V_below (by (with_reducible repeat (first | apply Kd.V_alloc | apply Kd.V_drewN | apply Kd.V_drew)); exact HO_2.out) hb)
            have n1_ := Aside0.mk (Kd.V_below (by (with_reducible repeat (first | apply Kd.V_alloc | apply Kd.V_drewN | apply Kd.V_drew)); exact HO_3.out) hb)
            have n2_ := Aside0.mk (Kd.N_below (by (with_reducible repeat (first | apply Kd.N_alloc | apply Kd.N_drewN | apply Kd.N_drew)); exact HO_11.out) hb)
            have n3_ := Aside0.mk (Kd.V_below (by (with_reducible repeat (first | apply Kd.V_alloc | apply Kd.V_drewN | apply Kd.V_drew)); exact HO241.out) hb)
            have n4_ := Aside0.mk (Kd.V_below (by (with_reducible repeat (first | apply Kd.V_alloc | apply Kd.V_drewN | apply Kd.V_drew)); exact HO244.out) hb)
            have n5_ := Aside0.mk (Kd.V_below (by (with_reducible repeat (first | apply Kd.V_alloc | apply Kd.V_drewN | apply Kd.V_drew)); exact HO247.out) hb)
            have n6_ := Aside0.mk (Kd.V_lower (Kd.V_mono (ok' := fun k_ => ((P2_ k_ ∨ P3_ k_) ∨ w.heap.size ≤ k_) ∧ some k_ ≠ (.slice Ao36 y215.length co36 : Value).ownBlock ∧ k_ ≠ gb206) ho0 (fun k_ hk_ => ⟨(.inr (Nat.le_trans (below_size (by repeat (first | (with_reducible first | exact HB.out | apply below_alloc | apply pw_below_drewN | apply below_drew1 | refine below_set ?_ GE206.out) | exact HB.out))) hk_)), (Kd.fresh' (Kd.N_lt (by (with_reducible repeat (first | apply Kd.N_alloc | apply Kd.N_drewN | apply Kd.N_drew)); exact HO_11.out)) k_ hk_), (Kd.freshB (g := gb206) (o := .cells #[.int .i64 a0_0, .int .i64 a0_1, .int .i64 a0_2, .int .u64 a0_3, .int .u64 a0_4, .int .u64 a0_5] 24 (0, 0)) (by (with_reducible repeat (first | refine blk_drewN ?_ _ | refine blk_drew ?_ | refine blk_alloc ?_ _)); exact BK206.out) k_ hk_)⟩)) (below_size (by repeat (first | (with_reducible first | exact HB.out | apply below_alloc | apply pw_below_drewN | apply below_drew1 | refine below_set ?_ GE206.out) | exact HB.out))))
            have n7_ := Aside0.mk (blk_below (g := gb206) (o := .cells #[.int .i64 a0_0, .int .i64 a0_1, .int .i64 a0_2, .int .u64 a0_3, .int .u64 a0_4, .int .u64 a0_5] 24 (0, 0)) (by (with_reducible repeat (first | refine blk_drewN ?_ _ | refine blk_drew ?_ | refine blk_alloc ?_ _)); exact BK206.out) hb)
            have n8_ := Aside0.mk (below_step (by repeat (first | (with_reducible first | exact HB.out | apply below_alloc | apply pw_below_drewN | apply below_drew1 | refine below_set ?_ GE206.out) | exact HB.out)) hb)
            clear HO_2
            clear HO_3
            clear HO_11
            clear HO241
            clear HO244
            clear HO247
            clear BK206
            clear HB
            have HO_2 := n0_
            have HO_3 := n1_
            have HO_11 := n2_
            have HO241 := n3_
            have HO244 := n4_
            have HO247 := n5_
            have HO251 := n6_
            have BK206 := n7_
            have HB := n8_
            clear n0_ n1_ n2_ n3_ n4_ n5_ n6_ n7_ n8_
            (try clear hb)
            (try clear hb2)
            (try clear hk)
            (try clear hi)
            (try clear ho0)
            obtain ⟨Ao80, co80, eo80⟩ := Kd.V_slice HO251.out
            (first | subst eo80 | (injection eo80 with f1_ f2_ f3_; have f4_ := f1_.symm; have f5_ := f3_.symm; clear f1_ f2_ f3_; subst f4_; subst f5_))
            refine hK.out _ _ ⟨(blk_cell BK206.out 0).trans rfl, (blk_cell BK206.out 1).trans rfl, (blk_cell BK206.out 2).trans rfl, (blk_cell BK206.out 3).trans rfl, (blk_cell BK206.out 4).trans rfl, (blk_cell BK206.out 5).trans rfl⟩ (fun hHeld => ?_)
            clear hK K
            refine norm_ (a' := ?_) ?_ ?_
            rotate_left
            · show Act.put _ (some 100) _ = _
              simp only [Act.put, sA_, sB_, sC_, i64_w, i32_w]
              rfl
            refine one_ (i := 15) (N := some 101) #[true, true, true, true, true, true, true, true, true, true, true, true, true, true, true, true, false, false, false, false, false, false, false, false, false, false, false, false, false, false, false, false, false, false] rfl rfl (one_of HT_.out (by kernel_rfl)) (by decide) (fun K hK => ?_)
            refine goes_ Try.func7 (by kernel_rfl) rfl #[.slice Ao77 t239.length co77, .slice Ao80 t249.length co80] (by rfl) rfl rfl (by (try simp only [List.map_toArray, List.map_cons, List.map_nil]); first | done | rfl | (simp only [List.length_drop, List.length_take]; rfl)) ?_
            with_reducible refine (spec_SameText.calls _ _ t239 _ _ t249 true _ ?side1 ?side2 ?side3 ?side4 A64.out).mono ?_
            (case side1 => repeat (first | exact (Kd.V_reads' HO241.out).2.2 | (with_reducible refine Kd.C_alloc ?_ _) | (with_reducible refine Kd.C_drewN ?_ _) | (with_reducible refine Kd.C_drew ?_)))
            (case side2 => exact (Kd.V_reads' HO241.out).2.1)
            (case side3 => repeat (first | exact (Kd.V_reads' HO251.out).2.2 | (with_reducible refine Kd.C_alloc ?_ _) | (with_reducible refine Kd.C_drewN ?_ _) | (with_reducible refine Kd.C_drew ?_)))
            (case side4 => exact (Kd.V_reads' HO251.out).2.1)
            rintro e w' ⟨rfl, ⟨nd, rfl⟩⟩
            refine ⟨_, rfl, ?_⟩
            refine hK.out _ _ ⟨(blk_cell BK206.out 0).trans rfl, (blk_cell BK206.out 1).trans rfl, (blk_cell BK206.out 2).trans rfl, (blk_cell BK206.out 3).trans rfl, (blk_cell BK206.out 4).trans rfl, (blk_cell BK206.out 5).trans rfl⟩ (fun hHeld => ?_)
            clear hK K
            refine norm_ (a' := ?_) ?_ ?_
            rotate_left
            · show Act.put _ (some 101) _ = _
              simp only [Act.put, sA_, sB_, sC_, i64_w, i32_w]
              rfl
            refine pure_ (i := 16) (N := some 102) (v := ?_) (a' := ?_) #[true, true, true, true, true, true, true, true, true, true, true, true, true, true, true, true, true, false, false, false, false, false, false, false, false, false, false, false, false, false, false, false, false, false] rfl rfl (any_of HT_.out (by kernel_rfl)) (fun _ _ _ h => h) (Or.inl ⟨by rfl, ?_⟩) ?_ ?_
            rotate_left
            · intro w'
              go_simp
              with_reducible rfl
            rotate_left
            · simp only [Act.put, sA_, sB_, sC_, i64_w, i32_w]
              rfl
            refine pure_ (i := 17) (N := some 103) (v := ?_) (a' := ?_) #[true, true, true, true, true, true, true, true, true, true, true, true, true, true, true, true, true, true, false, false, false, false, false, false, false, false, false, false, false, false, false, false, false, false] rfl rfl (any_of HT_.out (by kernel_rfl)) (fun _ _ _ h => h) (Or.inl ⟨by rfl, ?_⟩) ?_ ?_
            rotate_left
            · intro w'
              go_simp
              with_reducible rfl
            rotate_left
            · simp only [Act.put, sA_, sB_, sC_, i64_w, i32_w]
              rfl
            refine pure_ (i := 18) (N := some 104) (v := ?_) (a' := ?_) #[true, true, true, true, true, true, true, true, true, true, true, true, true, true, true, true, true, true, true, false, false, false, false, false, false, false, false, false, false, false, false, false, false, false] rfl rfl (any_of HT_.out (by kernel_rfl)) (fun _ _ _ h => h) (Or.inl ⟨by rfl, ?_⟩) ?_ ?_
            rotate_left
            · intro w'
              go_simp
              with_reducible rfl
            rotate_left
            · simp only [Act.put, sA_, sB_, sC_, i64_w, i32_w]
              rfl
            refine pure_ (i := 20) (N := some 106) (v := ?_) (a' := ?_) #[true, true, true, true, true, true, true, true, true, true, true, true, true, true, true, true, true, true, true, false, true, false, false, false, false, false, false, false, false, false, false, false, false, false] rfl rfl (any_of HT_.out (by kernel_rfl)) (fun _ _ _ h => h) (Or.inl ⟨by rfl, ?_⟩) ?_ ?_
            rotate_left
            · intro w'
              go_simp
              with_reducible rfl
            rotate_left
            · simp only [Act.put, sA_, sB_, sC_, i64_w, i32_w]
              rfl
            refine pure_ (i := 21) (N := some 107) (v := ?_) (a' := ?_) #[true, true, true, true, true, true, true, true, true, true, true, true, true, true, true, true, true, true, true, false, true, true, false, false, false, false, false, false, false, false, false, false, false, false] rfl rfl (any_of HT_.out (by kernel_rfl)) (fun _ _ _ h => h) (Or.inl ⟨by rfl, ?_⟩) ?_ ?_
            rotate_left
            · intro w'
              go_simp
              with_reducible rfl
            rotate_left
            · simp only [Act.put, sA_, sB_, sC_, i64_w, i32_w]
              rfl
            refine take_ (i := 19) (N := some 105) (v := ?_) (a' := ?_) #[true, true, true, true, true, true, true, true, true, true, true, true, true, true, true, true, true, true, true, true, true, true, false, false, false, false, false, false, false, false, false, false, false, false] rfl rfl (take_ofW HT_.out HW_.out (by kernel_rfl)) (fun _ _ _ h => h) (Or.inl ⟨by rfl, ?_⟩) hHeld ?_ ?_
            rotate_left
            · rintro w' ⟨s0, s1, s2, s3, s4, s5⟩
              go_simp
              with_reducible rfl
            rotate_left
            · simp only [Act.put, sA_, sB_, sC_, i64_w, i32_w]
              rfl
            refine one_ (i := 22) (N := some 108) #[true, true, true, true, true, true, true, true, true, true, true, true, true, true, true, true, true, true, true, true, true, true, true, false, false, false, false, false, false, false, false, false, false, false] rfl rfl (one_of HT_.out (by kernel_rfl)) (by decide) (fun K hK => ?_)
            refine goes_ Try.func9 (by kernel_rfl) rfl #[.agg #[.int .i64 a0_0, .int .i64 a0_1, .int .i64 a0_2, .int .u64 a0_3, .int .u64 a0_4, .int .u64 a0_5], .slice A1 l1.length c1, .slice Ao36 y215.length co36, .int .u64 18446744073709551615] (by rfl) rfl rfl (by (try simp only [List.map_toArray, List.map_cons, List.map_nil]); first | done | rfl | (simp only [List.length_drop, List.length_take]; rfl)) ?_
            with_reducible refine (impl_ChainInnerRight.calls kj48 a0_0 a0_1 a0_2 a0_3 a0_4 a0_5 _ _ l1 _ _ y215 18446744073709551615 t253 _ ?side1 ?side2 ?side3 ?side4 A66.out).mono ?_
            (case side1 => repeat (first | exact (Kd.C_below HR1.out (by repeat (first | (with_reducible first | exact HB.out | apply below_alloc | apply pw_below_drewN | apply below_drew1 | refine below_set ?_ GE206.out) | exact HB.out))) | (with_reducible refine Kd.C_alloc ?_ _) | (with_reducible refine Kd.C_drewN ?_ _) | (with_reducible refine Kd.C_drew ?_)))
            (case side2 => exact HC1.out)
            (case side3 => repeat (first | exact (Kd.N_reads' HO_11.out).2.2 | (with_reducible refine Kd.C_alloc ?_ _) | (with_reducible refine Kd.C_drewN ?_ _) | (with_reducible refine Kd.C_drew ?_)))
            (case side4 => exact (Kd.N_reads' HO_11.out).2.1)
            rintro e w81 ⟨v254, rfl, ho0, hb⟩
            refine ⟨_, rfl, ?_⟩
            have n0_ := Aside0.mk (Kd.V_below (by (with_reducible repeat (first | apply Kd.V_alloc | apply Kd.V_drewN | apply Kd.V_drew)); exact HO_2.out) hb)
            have n1_ := Aside0.mk (Kd.V_below (by (with_reducible repeat (first | apply Kd.V_alloc | apply Kd.V_drewN | apply Kd.V_drew)); exact HO_3.out) hb)
            have n2_ := Aside0.mk (Kd.N_below (by (with_reducible repeat (first | apply Kd.N_alloc | apply Kd.N_drewN | apply Kd.N_drew)); exact HO_11.out) hb)
            have n3_ := Aside0.mk (Kd.V_below (by (with_reducible repeat (first | apply Kd.V_alloc | apply Kd.V_drewN | apply Kd.V_drew)); exact HO241.out) hb)
            have n4_ := Aside0.mk (Kd.V_below (by (with_reducible repeat (first | apply Kd.V_alloc | apply Kd.V_drewN | apply Kd.V_drew)); exact HO244.out) hb)
            have n5_ := Aside0.mk (Kd.V_below (by (with_reducible repeat (first | apply Kd.V_alloc | apply Kd.V_drewN | apply Kd.V_drew)); exact HO247.out) hb)
            have n6_ := Aside0.mk (Kd.V_below (by (with_reducible repeat (first | apply Kd.V_alloc | apply Kd.V_drewN | apply Kd.V_drew)); exact HO251.out) hb)
            have n7_ := Aside0.mk (Kd.V_lower (Kd.V_mono (ok' := fun k_ => ((P2_ k_ ∨ P3_ k_) ∨ w.heap.size ≤ k_) ∧ some k_ ≠ (.slice Ao36 y215.length co36 : Value).ownBlock ∧ k_ ≠ gb206) ho0 (fun k_ hk_ => ⟨(.inr (Nat.le_trans (below_size (by repeat (first | (with_reducible first | exact HB.out | apply below_alloc | apply pw_below_drewN | apply below_drew1 | refine below_set ?_ GE206.out) | exact HB.out))) hk_)), (Kd.fresh' (Kd.N_lt (by (with_reducible repeat (first | apply Kd.N_alloc | apply Kd.N_drewN | apply Kd.N_drew)); exact HO_11.out)) k_ hk_), (Kd.freshB (g := gb206) (o := .cells #[.int .i64 a0_0, .int .i64 a0_1, .int .i64 a0_2, .int .u64 a0_3, .int .u64 a0_4, .int .u64 a0_5] 24 (0, 0)) (by (with_reducible repeat (first | refine blk_drewN ?_ _ | refine blk_drew ?_ | refine blk_alloc ?_ _)); exact BK206.out) k_ hk_)⟩)) (below_size (by repeat (first | (with_reducible first | exact HB.out | apply below_alloc | apply pw_below_drewN | apply below_drew1 | refine below_set ?_ GE206.out) | exact HB.out))))
            have n8_ := Aside0.mk (blk_below (g := gb206) (o := .cells #[.int .i64 a0_0, .int .i64 a0_1, .int .i64 a0_2, .int .u64 a0_3, .int .u64 a0_4, .int .u64 a0_5] 24 (0, 0)) (by (with_reducible repeat (first | refine blk_drewN ?_ _ | refine blk_drew ?_ | refine blk_alloc ?_ _)); exact BK206.out) hb)
            have n9_ := Aside0.mk (below_step (by repeat (first | (with_reducible first | exact HB.out | apply below_alloc | apply pw_below_drewN | apply below_drew1 | refine below_set ?_ GE206.out) | exact HB.out)) hb)
            clear HO_2
            clear HO_3
            clear HO_11
            clear HO241
            clear HO244
            clear HO247
            clear HO251
            clear BK206
            clear HB
            have HO_2 := n0_
            have HO_3 := n1_
            have HO_11 := n2_
            have HO241 := n3_
            have HO244 := n4_
            have HO247 := n5_
            have HO251 := n6_
            have HO255 := n7_
            have BK206 := n8_
            have HB := n9_
            clear n0_ n1_ n2_ n3_ n4_ n5_ n6_ n7_ n8_ n9_
            (try clear hb)
            (try clear hb2)
            (try clear hk)
            (try clear hi)
            (try clear ho0)
            obtain ⟨Ao82, co82, eo82⟩ := Kd.V_slice HO255.out
            (first | subst eo82 | (injection eo82 with f1_ f2_ f3_; have f4_ := f1_.symm; have f5_ := f3_.symm; clear f1_ f2_ f3_; subst f4_; subst f5_))
            refine hK.out _ _ ⟨(blk_cell BK206.out 0).trans rfl, (blk_cell BK206.out 1).trans rfl, (blk_cell BK206.out 2).trans rfl, (blk_cell BK206.out 3).trans rfl, (blk_cell BK206.out 4).trans rfl, (blk_cell BK206.out 5).trans rfl⟩ (fun hHeld => ?_)
            clear hK K
            refine norm_ (a' := ?_) ?_ ?_
            rotate_left
            · show Act.put _ (some 108) _ = _
              simp only [Act.put, sA_, sB_, sC_, i64_w, i32_w]
              rfl
            refine one_ (i := 23) (N := some 109) #[true, true, true, true, true, true, true, true, true, true, true, true, true, true, true, true, true, true, true, true, true, true, true, true, false, false, false, false, false, false, false, false, false, false] rfl rfl (one_of HT_.out (by kernel_rfl)) (by decide) (fun K hK => ?_)
            refine goes_ Try.func7 (by kernel_rfl) rfl #[.slice Ao77 t239.length co77, .slice Ao82 t253.length co82] (by rfl) rfl rfl (by (try simp only [List.map_toArray, List.map_cons, List.map_nil]); first | done | rfl | (simp only [List.length_drop, List.length_take]; rfl)) ?_
            with_reducible refine (spec_SameText.calls _ _ t239 _ _ t253 true _ ?side1 ?side2 ?side3 ?side4 A67.out).mono ?_
            (case side1 => repeat (first | exact (Kd.V_reads' HO241.out).2.2 | (with_reducible refine Kd.C_alloc ?_ _) | (with_reducible refine Kd.C_drewN ?_ _) | (with_reducible refine Kd.C_drew ?_)))
            (case side2 => exact (Kd.V_reads' HO241.out).2.1)
            (case side3 => repeat (first | exact (Kd.V_reads' HO255.out).2.2 | (with_reducible refine Kd.C_alloc ?_ _) | (with_reducible refine Kd.C_drewN ?_ _) | (with_reducible refine Kd.C_drew ?_)))
            (case side4 => exact (Kd.V_reads' HO255.out).2.1)
            rintro e w' ⟨rfl, ⟨nd, rfl⟩⟩
            refine ⟨_, rfl, ?_⟩
            refine hK.out _ _ ⟨(blk_cell BK206.out 0).trans rfl, (blk_cell BK206.out 1).trans rfl, (blk_cell BK206.out 2).trans rfl, (blk_cell BK206.out 3).trans rfl, (blk_cell BK206.out 4).trans rfl, (blk_cell BK206.out 5).trans rfl⟩ (fun hHeld => ?_)
            clear hK K
            refine norm_ (a' := ?_) ?_ ?_
            rotate_left
            · show Act.put _ (some 109) _ = _
              simp only [Act.put, sA_, sB_, sC_, i64_w, i32_w]
              rfl
            refine pure_ (i := 24) (N := some 110) (v := ?_) (a' := ?_) #[true, true, true, true, true, true, true, true, true, true, true, true, true, true, true, true, true, true, true, true, true, true, true, true, true, false, false, false, false, false, false, false, false, false] rfl rfl (any_of HT_.out (by kernel_rfl)) (fun _ _ _ h => h) (Or.inl ⟨by rfl, ?_⟩) ?_ ?_
            rotate_left
            · intro w'
              go_simp
              with_reducible rfl
            rotate_left
            · simp only [Act.put, sA_, sB_, sC_, i64_w, i32_w]
              rfl
            refine pure_ (i := 25) (N := some 111) (v := ?_) (a' := ?_) #[true, true, true, true, true, true, true, true, true, true, true, true, true, true, true, true, true, true, true, true, true, true, true, true, true, true, false, false, false, false, false, false, false, false] rfl rfl (any_of HT_.out (by kernel_rfl)) (fun _ _ _ h => h) (Or.inl ⟨by rfl, ?_⟩) ?_ ?_
            rotate_left
            · intro w'
              go_simp
              with_reducible rfl
            rotate_left
            · simp only [Act.put, sA_, sB_, sC_, i64_w, i32_w]
              rfl
            refine pure_ (i := 27) (N := some 113) (v := ?_) (a' := ?_) #[true, true, true, true, true, true, true, true, true, true, true, true, true, true, true, true, true, true, true, true, true, true, true, true, true, true, false, true, false, false, false, false, false, false] rfl rfl (any_of HT_.out (by kernel_rfl)) (fun _ _ _ h => h) (Or.inl ⟨by rfl, ?_⟩) ?_ ?_
            rotate_left
            · intro w'
              go_simp
              with_reducible rfl
            rotate_left
            · simp only [Act.put, sA_, sB_, sC_, i64_w, i32_w]
              rfl
            refine pure_ (i := 28) (N := some 114) (v := ?_) (a' := ?_) #[true, true, true, true, true, true, true, true, true, true, true, true, true, true, true, true, true, true, true, true, true, true, true, true, true, true, false, true, true, false, false, false, false, false] rfl rfl (any_of HT_.out (by kernel_rfl)) (fun _ _ _ h => h) (Or.inl ⟨by rfl, ?_⟩) ?_ ?_
            rotate_left
            · intro w'
              go_simp
              with_reducible rfl
            rotate_left
            · simp only [Act.put, sA_, sB_, sC_, i64_w, i32_w]
              rfl
            refine pure_ (i := 30) (N := some 116) (v := ?_) (a' := ?_) #[true, true, true, true, true, true, true, true, true, true, true, true, true, true, true, true, true, true, true, true, true, true, true, true, true, true, false, true, true, false, true, false, false, false] rfl rfl (any_of HT_.out (by kernel_rfl)) (fun _ _ _ h => h) (Or.inl ⟨by rfl, ?_⟩) ?_ ?_
            rotate_left
            · intro w'
              go_simp
              with_reducible rfl
            rotate_left
            · simp only [Act.put, sA_, sB_, sC_, i64_w, i32_w]
              rfl
            refine take_ (i := 26) (N := some 112) (v := ?_) (a' := ?_) #[true, true, true, true, true, true, true, true, true, true, true, true, true, true, true, true, true, true, true, true, true, true, true, true, true, true, true, true, true, false, true, false, false, false] rfl rfl (take_ofW HT_.out HW_.out (by kernel_rfl)) (fun _ _ _ h => h) (Or.inl ⟨by rfl, ?_⟩) hHeld ?_ ?_
            rotate_left
            · rintro w' ⟨s0, s1, s2, s3, s4, s5⟩
              go_simp
              with_reducible rfl
            rotate_left
            · simp only [Act.put, sA_, sB_, sC_, i64_w, i32_w]
              rfl
            refine one_ (i := 29) (N := some 115) #[true, true, true, true, true, true, true, true, true, true, true, true, true, true, true, true, true, true, true, true, true, true, true, true, true, true, true, true, true, true, true, false, false, false] rfl rfl (one_of HT_.out (by kernel_rfl)) (by decide) (fun K hK => ?_)
            refine goes_ Try.func9 (by kernel_rfl) rfl #[.agg #[.int .i64 a0_0, .int .i64 a0_1, .int .i64 a0_2, .int .u64 a0_3, .int .u64 a0_4, .int .u64 a0_5], .slice A1 l1.length c1, .slice Ao36 y215.length co36, .int .u64 0] (by rfl) rfl rfl (by (try simp only [List.map_toArray, List.map_cons, List.map_nil]); first | done | rfl | (simp only [List.length_drop, List.length_take]; rfl)) ?_
            with_reducible refine (impl_ChainInnerRight.calls kj48 a0_0 a0_1 a0_2 a0_3 a0_4 a0_5 _ _ l1 _ _ y215 0 t257 _ ?side1 ?side2 ?side3 ?side4 A69.out).mono ?_
            (case side1 => repeat (first | exact (Kd.C_below HR1.out (by repeat (first | (with_reducible first | exact HB.out | apply below_alloc | apply pw_below_drewN | apply below_drew1 | refine below_set ?_ GE206.out) | exact HB.out))) | (with_reducible refine Kd.C_alloc ?_ _) | (with_reducible refine Kd.C_drewN ?_ _) | (with_reducible refine Kd.C_drew ?_)))
            (case side2 => exact HC1.out)
            (case side3 => repeat (first | exact (Kd.N_reads' HO_11.out).2.2 | (with_reducible refine Kd.C_alloc ?_ _) | (with_reducible refine Kd.C_drewN ?_ _) | (with_reducible refine Kd.C_drew ?_)))
            (case side4 => exact (Kd.N_reads' HO_11.out).2.1)
            rintro e w83 ⟨v258, rfl, ho0, hb⟩
            refine ⟨_, rfl, ?_⟩
            have n0_ := Aside0.mk (Kd.V_below (by (with_reducible repeat (first | apply Kd.V_alloc | apply Kd.V_drewN | apply Kd.V_drew)); exact HO_2.out) hb)
            have n1_ := Aside0.mk (Kd.V_below (by (with_reducible repeat (first | apply Kd.V_alloc | apply Kd.V_drewN | apply Kd.V_drew)); exact HO_3.out) hb)
            have n2_ := Aside0.mk (Kd.N_below (by (with_reducible repeat (first | apply Kd.N_alloc | apply Kd.N_drewN | apply Kd.N_drew)); exact HO_11.out) hb)
            have n3_ := Aside0.mk (Kd.V_below (by (with_reducible repeat (first | apply Kd.V_alloc | apply Kd.V_drewN | apply Kd.V_drew)); exact HO241.out) hb)
            have n4_ := Aside0.mk (Kd.V_below (by (with_reducible repeat (first | apply Kd.V_alloc | apply Kd.V_drewN | apply Kd.V_drew)); exact HO244.out) hb)
            have n5_ := Aside0.mk (Kd.V_below (by (with_reducible repeat (first | apply Kd.V_alloc | apply Kd.V_drewN | apply Kd.V_drew)); exact HO247.out) hb)
            have n6_ := Aside0.mk (Kd.V_below (by (with_reducible repeat (first | apply Kd.V_alloc | apply Kd.V_drewN | apply Kd.V_drew)); exact HO251.out) hb)
            have n7_ := Aside0.mk (Kd.V_below (by (with_reducible repeat (first | apply Kd.V_alloc | apply Kd.V_drewN | apply Kd.V_drew)); exact HO255.out) hb)
            have n8_ := Aside0.mk (Kd.V_lower (Kd.V_mono (ok' := fun k_ => ((P2_ k_ ∨ P3_ k_) ∨ w.heap.size ≤ k_) ∧ some k_ ≠ (.slice Ao36 y215.length co36 : Value).ownBlock ∧ k_ ≠ gb206) ho0 (fun k_ hk_ => ⟨(.inr (Nat.le_trans (below_size (by repeat (first | (with_reducible first | exact HB.out | apply below_alloc | apply pw_below_drewN | apply below_drew1 | refine below_set ?_ GE206.out) | exact HB.out))) hk_)), (Kd.fresh' (Kd.N_lt (by (with_reducible repeat (first | apply Kd.N_alloc | apply Kd.N_drewN | apply Kd.N_drew)); exact HO_11.out)) k_ hk_), (Kd.freshB (g := gb206) (o := .cells #[.int .i64 a0_0, .int .i64 a0_1, .int .i64 a0_2, .int .u64 a0_3, .int .u64 a0_4, .int .u64 a0_5] 24 (0, 0)) (by (with_reducible repeat (first | refine blk_drewN ?_ _ | refine blk_drew ?_ | refine blk_alloc ?_ _)); exact BK206.out) k_ hk_)⟩)) (below_size (by repeat (first | (with_reducible first | exact HB.out | apply below_alloc | apply pw_below_drewN | apply below_drew1 | refine below_set ?_ GE206.out) | exact HB.out))))
            have n9_ := Aside0.mk (blk_below (g := gb206) (o := .cells #[.int .i64 a0_0, .int .i64 a0_1, .int .i64 a0_2, .int .u64 a0_3, .int .u64 a0_4, .int .u64 a0_5] 24 (0, 0)) (by (with_reducible repeat (first | refine blk_drewN ?_ _ | refine blk_drew ?_ | refine blk_alloc ?_ _)); exact BK206.out) hb)
            have n10_ := Aside0.mk (below_step (by repeat (first | (with_reducible first | exact HB.out | apply below_alloc | apply pw_below_drewN | apply below_drew1 | refine below_set ?_ GE206.out) | exact HB.out)) hb)
            clear HO_2
            clear HO_3
            clear HO_11
            clear HO241
            clear HO244
            clear HO247
            clear HO251
            clear HO255
            clear BK206
            clear HB
            have HO_2 := n0_
            have HO_3 := n1_
            have HO_11 := n2_
            have HO241 := n3_
            have HO244 := n4_
            have HO247 := n5_
            have HO251 := n6_
            have HO255 := n7_
            have HO259 := n8_
            have BK206 := n9_
            have HB := n10_
            clear n0_ n1_ n2_ n3_ n4_ n5_ n6_ n7_ n8_ n9_ n10_
            (try clear hb)
            (try clear hb2)
            (try clear hk)
            (try clear hi)
            (try clear ho0)
            obtain ⟨Ao84, co84, eo84⟩ := Kd.V_slice HO259.out
            (first | subst eo84 | (injection eo84 with f1_ f2_ f3_; have f4_ := f1_.symm; have f5_ := f3_.symm; clear f1_ f2_ f3_; subst f4_; subst f5_))
            refine hK.out _ _ ⟨(blk_cell BK206.out 0).trans rfl, (blk_cell BK206.out 1).trans rfl, (blk_cell BK206.out 2).trans rfl, (blk_cell BK206.out 3).trans rfl, (blk_cell BK206.out 4).trans rfl, (blk_cell BK206.out 5).trans rfl⟩ (fun hHeld => ?_)
            clear hK K
            refine norm_ (a' := ?_) ?_ ?_
            rotate_left
            · show Act.put _ (some 115) _ = _
              simp only [Act.put, sA_, sB_, sC_, i64_w, i32_w]
              rfl
            refine one_ (i := 31) (N := some 117) #[true, true, true, true, true, true, true, true, true, true, true, true, true, true, true, true, true, true, true, true, true, true, true, true, true, true, true, true, true, true, true, true, false, false] rfl rfl (one_of HT_.out (by kernel_rfl)) (by decide) (fun K hK => ?_)
            refine goes_ Try.func7 (by kernel_rfl) rfl #[.slice Ao84 t257.length co84, .slice A1 l1.length c1] (by rfl) rfl rfl (by (try simp only [List.map_toArray, List.map_cons, List.map_nil]); first | done | rfl | (simp only [List.length_drop, List.length_take]; rfl)) ?_
            with_reducible refine (spec_SameText.calls _ _ t257 _ _ l1 t260 _ ?side1 ?side2 ?side3 ?side4 A70.out).mono ?_
            (case side1 => repeat (first | exact (Kd.V_reads' HO259.out).2.2 | (with_reducible refine Kd.C_alloc ?_ _) | (with_reducible refine Kd.C_drewN ?_ _) | (with_reducible refine Kd.C_drew ?_)))
            (case side2 => exact (Kd.V_reads' HO259.out).2.1)
            (case side3 => repeat (first | exact (Kd.C_below HR1.out HB.out) | (with_reducible refine Kd.C_alloc ?_ _) | (with_reducible refine Kd.C_drewN ?_ _) | (with_reducible refine Kd.C_drew ?_)))
            (case side4 => exact HC1.out)
            rintro e w' ⟨rfl, ⟨nd, rfl⟩⟩
            refine ⟨_, rfl, ?_⟩
            refine hK.out _ _ ⟨(blk_cell BK206.out 0).trans rfl, (blk_cell BK206.out 1).trans rfl, (blk_cell BK206.out 2).trans rfl, (blk_cell BK206.out 3).trans rfl, (blk_cell BK206.out 4).trans rfl, (blk_cell BK206.out 5).trans rfl⟩ (fun hHeld => ?_)
            clear hK K
            refine norm_ (a' := ?_) ?_ ?_
            rotate_left
            · show Act.put _ (some 117) _ = _
              simp only [Act.put, sA_, sB_, sC_, i64_w, i32_w]
              rfl
            refine pure_ (i := 32) (N := some 118) (v := ?_) (a' := ?_) #[true, true, true, true, true, true, true, true, true, true, true, true, true, true, true, true, true, true, true, true, true, true, true, true, true, true, true, true, true, true, true, true, true, false] rfl rfl (any_of HT_.out (by kernel_rfl)) (fun _ _ _ h => h) (Or.inl ⟨by rfl, ?_⟩) ?_ ?_
            rotate_left
            · intro w'
              go_simp
              with_reducible rfl
            rotate_left
            · simp only [Act.put, sA_, sB_, sC_, i64_w, i32_w]
              rfl
            refine pure_ (i := 33) (N := some 10) (v := ?_) (a' := ?_) #[true, true, true, true, true, true, true, true, true, true, true, true, true, true, true, true, true, true, true, true, true, true, true, true, true, true, true, true, true, true, true, true, true, true] rfl rfl (any_of HT_.out (by kernel_rfl)) (fun _ _ _ h => h) (Or.inl ⟨by rfl, ?_⟩) ?_ ?_
            rotate_left
            · intro w'
              go_simp
              with_reducible rfl
            rotate_left
            · simp only [Act.put, sA_, sB_, sC_, i64_w, i32_w]
              rfl
            refine done_ (done_of HT_.out (by kernel_rfl)) ?_
            try go_wp2
            go_ret
            exact ⟨by first | rfl | (simp [errW_none, errW_some] <;> rfl) | (simp only [← hji31, ← hji46]; first | rfl | (simp [errW_none, errW_some] <;> rfl)) | (simp [*, errW_none, errW_some] <;> rfl), by repeat (first | (with_reducible first | exact HB.out | apply below_alloc | apply pw_below_drewN | apply below_drew1 | refine below_set ?_ GE206.out) | exact HB.out)⟩
          replace c68 := Bool.eq_false_iff.mpr c68
          subst c68
          have H1 : (some false) = some r := by rw [if_neg (show ¬ (false = true) by decide)] at H; exact H
          clear H
          have H := H1
          clear H1
          obtain rfl := Option.some.inj H
          have hcz85_0 : wc.cell? ⟨gb206, 0, none⟩ = some (.int .i64 a0_0) := (blk_cell BK206.out 0).trans rfl
          have hcz85_1 : wc.cell? ⟨gb206, 1, none⟩ = some (.int .i64 a0_1) := (blk_cell BK206.out 1).trans rfl
          have hcz85_2 : wc.cell? ⟨gb206, 2, none⟩ = some (.int .i64 a0_2) := (blk_cell BK206.out 2).trans rfl
          have hcz85_3 : wc.cell? ⟨gb206, 3, none⟩ = some (.int .u64 a0_3) := (blk_cell BK206.out 3).trans rfl
          have hcz85_4 : wc.cell? ⟨gb206, 4, none⟩ = some (.int .u64 a0_4) := (blk_cell BK206.out 4).trans rfl
          have hcz85_5 : wc.cell? ⟨gb206, 5, none⟩ = some (.int .u64 a0_5) := (blk_cell BK206.out 5).trans rfl
          have hfz85_0 := blk_frozen BK206.out 0
          have hfz85_1 := blk_frozen BK206.out 1
          have hfz85_2 := blk_frozen BK206.out 2
          have hfz85_3 := blk_frozen BK206.out 3
          have hfz85_4 := blk_frozen BK206.out 4
          have hfz85_5 := blk_frozen BK206.out 5
          try go_wp2_with (first | ((with_reducible refine gate_callee (f := 10) rfl ?_); refine goesL_ (some 85) rfl rfl Try.func10 (by kernel_rfl) rfl #[.agg #[.int .i64 a0_0, .int .i64 a0_1, .int .i64 a0_2, .int .u64 a0_3, .int .u64 a0_4, .int .u64 a0_5], .slice A1 l1.length c1, .slice Ao36 y215.length co36] rfl (by (try simp only [List.map_toArray, List.map_cons, List.map_nil]); first | done | rfl | (simp only [List.length_drop, List.length_take]; rfl)) ?_; (with_reducible refine (impl_ChainBorder.calls kj48 a0_0 a0_1 a0_2 a0_3 a0_4 a0_5 _ _ l1 _ _ y215 t239 _ ?side1 ?side2 ?side3 ?side4 A58.out).mono ?_); (case side1 => repeat (first | exact (Kd.C_below HR1.out HB.out) | (with_reducible refine Kd.C_alloc ?_ _) | (with_reducible refine Kd.C_drewN ?_ _) | (with_reducible refine Kd.C_drew ?_))); (case side2 => exact HC1.out); (case side3 => repeat (first | exact (Kd.N_reads' HO_11.out).2.2 | (with_reducible refine Kd.C_alloc ?_ _) | (with_reducible refine Kd.C_drewN ?_ _) | (with_reducible refine Kd.C_drew ?_))); (case side4 => exact (Kd.N_reads' HO_11.out).2.1); rintro e w86 ⟨v240, rfl, ho0, hb⟩; refine ⟨_, rfl, ?_⟩; have n0_ := Aside0.mk (Kd.V_below (by (with_reducible repeat (first | apply Kd.V_alloc | apply Kd.V_drewN | apply Kd.V_drew)); exact HO_2.out) hb); have n1_ := Aside0.mk (Kd.V_below (by (with_reducible repeat (first | apply Kd.V_alloc | apply Kd.V_drewN | apply Kd.V_drew)); exact HO_3.out) hb); have n2_ := Aside0.mk (Kd.N_below (by (with_reducible repeat (first | apply Kd.N_alloc | apply Kd.N_drewN | apply Kd.N_drew)); exact HO_11.out) hb); have n3_ := Aside0.mk (Kd.V_lower (Kd.V_mono (ok' := fun k_ => ((P2_ k_ ∨ P3_ k_) ∨ w.heap.size ≤ k_) ∧ some k_ ≠ (.slice Ao36 y215.length co36 : Value).ownBlock ∧ k_ ≠ gb206) ho0 (fun k_ hk_ => ⟨(.inr (Nat.le_trans (below_size (by repeat (first | (with_reducible first | exact HB.out | apply below_alloc | apply pw_below_drewN | apply below_drew1 | refine below_set ?_ GE206.out) | exact HB.out))) hk_)), (Kd.fresh' (Kd.N_lt (by (with_reducible repeat (first | apply Kd.N_alloc | apply Kd.N_drewN | apply Kd.N_drew)); exact HO_11.out)) k_ hk_), (Kd.freshB (g := gb206) (o := .cells #[.int .i64 a0_0, .int .i64 a0_1, .int .i64 a0_2, .int .u64 a0_3, .int .u64 a0_4, .int .u64 a0_5] 24 (0, 0)) (by (with_reducible repeat (first | refine blk_drewN ?_ _ | refine blk_drew ?_ | refine blk_alloc ?_ _)); exact BK206.out) k_ hk_)⟩)) (below_size (by repeat (first | (with_reducible first | exact HB.out | apply below_alloc | apply pw_below_drewN | apply below_drew1 | refine below_set ?_ GE206.out) | exact HB.out)))); have n4_ := Aside0.mk (blk_below (g := gb206) (o := .cells #[.int .i64 a0_0, .int .i64 a0_1, .int .i64 a0_2, .int .u64 a0_3, .int .u64 a0_4, .int .u64 a0_5] 24 (0, 0)) (by (with_reducible repeat (first | refine blk_drewN ?_ _ | refine blk_drew ?_ | refine blk_alloc ?_ _)); exact BK206.out) hb); have n5_ := Aside0.mk (below_step (by repeat (first | (with_reducible first | exact HB.out | apply below_alloc | apply pw_below_drewN | apply below_drew1 | refine below_set ?_ GE206.out) | exact HB.out)) hb); clear HO_2; clear HO_3; clear HO_11; clear BK206; clear HB; have HO_2 := n0_; have HO_3 := n1_; have HO_11 := n2_; have HO241 := n3_; have BK206 := n4_; have HB := n5_; clear n0_ n1_ n2_ n3_ n4_ n5_; (try clear hb); (try clear hb2); (try clear hk); (try clear hi); (try clear ho0)))
          have n0_ := Aside0.mk (Kd.V_drew HO_2.out)
          have n1_ := Aside0.mk (Kd.V_drew HO_3.out)
          have n2_ := Aside0.mk (Kd.N_drew HO_11.out)
          have n3_ := Aside0.mk (Kd.V_drew HO241.out)
          have n4_ := Aside0.mk (blk_drew BK206.out)
          have n5_ := Aside0.mk (below_drew1 HB.out)
          clear HO_2
          clear HO_3
          clear HO_11
          clear HO241
          clear BK206
          clear HB
          have HO_2 := n0_
          have HO_3 := n1_
          have HO_11 := n2_
          have HO241 := n3_
          have BK206 := n4_
          have HB := n5_
          clear n0_ n1_ n2_ n3_ n4_ n5_
          refine start_ (n := 34) (S := fun w' => w'.cell? ⟨gb206, 0, none⟩ = some (.int .i64 a0_0) ∧ w'.cell? ⟨gb206, 1, none⟩ = some (.int .i64 a0_1) ∧ w'.cell? ⟨gb206, 2, none⟩ = some (.int .i64 a0_2) ∧ w'.cell? ⟨gb206, 3, none⟩ = some (.int .u64 a0_3) ∧ w'.cell? ⟨gb206, 4, none⟩ = some (.int .u64 a0_4) ∧ w'.cell? ⟨gb206, 5, none⟩ = some (.int .u64 a0_5)) (ds := []) #[false, false, false, false, false, false, false, false, false, false, false, false, false, false, false, false, false, false, false, false, false, false, false, false, false, false, false, false, false, false, false, false, false, false] (by kernel_rfl) rfl rfl ⟨(blk_cell BK206.out 0).trans rfl, (blk_cell BK206.out 1).trans rfl, (blk_cell BK206.out 2).trans rfl, (blk_cell BK206.out 3).trans rfl, (blk_cell BK206.out 4).trans rfl, (blk_cell BK206.out 5).trans rfl⟩ (fun hHeld => ?_); refine with_tabW laws_FnChainsInParts.tab11 laws_FnChainsInParts.bits11 (fun HT_ HW_ => ?_)
          generalize w86.drew = w87 at HO_2 HO_3 HO_11 HO241 BK206 HB hHeld ⊢
          refine pure_ (i := 0) (N := some 86) (v := ?_) (a' := ?_) #[true, false, false, false, false, false, false, false, false, false, false, false, false, false, false, false, false, false, false, false, false, false, false, false, false, false, false, false, false, false, false, false, false, false] rfl rfl (any_of HT_.out (by kernel_rfl)) (fun _ _ _ h => h) (Or.inl ⟨by rfl, ?_⟩) ?_ ?_
          rotate_left
          · intro w'
            go_simp
            with_reducible rfl
          rotate_left
          · simp only [Act.put, sA_, sB_, sC_, i64_w, i32_w]
            rfl
          refine pure_ (i := 3) (N := some 89) (v := ?_) (a' := ?_) #[true, false, false, true, false, false, false, false, false, false, false, false, false, false, false, false, false, false, false, false, false, false, false, false, false, false, false, false, false, false, false, false, false, false] rfl rfl (any_of HT_.out (by kernel_rfl)) (fun _ _ _ h => h) (Or.inl ⟨by rfl, ?_⟩) ?_ ?_
          rotate_left
          · intro w'
            go_simp
            with_reducible rfl
          rotate_left
          · simp only [Act.put, sA_, sB_, sC_, i64_w, i32_w]
            rfl
          refine pure_ (i := 4) (N := some 90) (v := ?_) (a' := ?_) #[true, false, false, true, true, false, false, false, false, false, false, false, false, false, false, false, false, false, false, false, false, false, false, false, false, false, false, false, false, false, false, false, false, false] rfl rfl (any_of HT_.out (by kernel_rfl)) (fun _ _ _ h => h) (Or.inl ⟨by rfl, ?_⟩) ?_ ?_
          rotate_left
          · intro w'
            go_simp
            with_reducible rfl
          rotate_left
          · simp only [Act.put, sA_, sB_, sC_, i64_w, i32_w]
            rfl
          refine pure_ (i := 6) (N := some 92) (v := ?_) (a' := ?_) #[true, false, false, true, true, false, true, false, false, false, false, false, false, false, false, false, false, false, false, false, false, false, false, false, false, false, false, false, false, false, false, false, false, false] rfl rfl (any_of HT_.out (by kernel_rfl)) (fun _ _ _ h => h) (Or.inl ⟨by rfl, ?_⟩) ?_ ?_
          rotate_left
          · intro w'
            go_simp
            with_reducible rfl
          rotate_left
          · simp only [Act.put, sA_, sB_, sC_, i64_w, i32_w]
            rfl
          refine take_ (i := 1) (N := some 87) (v := ?_) (a' := ?_) #[true, true, false, true, true, false, true, false, false, false, false, false, false, false, false, false, false, false, false, false, false, false, false, false, false, false, false, false, false, false, false, false, false, false] rfl rfl (take_ofW HT_.out HW_.out (by kernel_rfl)) (fun _ _ _ h => h) (Or.inl ⟨by rfl, ?_⟩) hHeld ?_ ?_
          rotate_left
          · rintro w' ⟨s0, s1, s2, s3, s4, s5⟩
            go_simp
            with_reducible rfl
          rotate_left
          · simp only [Act.put, sA_, sB_, sC_, i64_w, i32_w]
            rfl
          refine take_ (i := 2) (N := some 88) (v := ?_) (a' := ?_) #[true, true, true, true, true, false, true, false, false, false, false, false, false, false, false, false, false, false, false, false, false, false, false, false, false, false, false, false, false, false, false, false, false, false] rfl rfl (take_ofW HT_.out HW_.out (by kernel_rfl)) (fun _ _ _ h => h) (Or.inl ⟨by rfl, ?_⟩) hHeld ?_ ?_
          rotate_left
          · rintro w' ⟨s0, s1, s2, s3, s4, s5⟩
            go_simp
            with_reducible rfl
          rotate_left
          · simp only [Act.put, sA_, sB_, sC_, i64_w, i32_w]
            rfl
          refine one_ (i := 5) (N := some 91) #[true, true, true, true, true, true, true, false, false, false, false, false, false, false, false, false, false, false, false, false, false, false, false, false, false, false, false, false, false, false, false, false, false, false] rfl rfl (one_of HT_.out (by kernel_rfl)) (by decide) (fun K hK => ?_)
          refine goes_ Try.func10 (by kernel_rfl) rfl #[.agg #[.int .i64 a0_0, .int .i64 a0_1, .int .i64 a0_2, .int .u64 a0_3, .int .u64 a0_4, .int .u64 a0_5], .slice A1 l1.length c1, .slice A2 l2.length c2] (by rfl) rfl rfl (by (try simp only [List.map_toArray, List.map_cons, List.map_nil]); first | done | rfl | (simp only [List.length_drop, List.length_take]; rfl)) ?_
          with_reducible refine (impl_ChainBorder.calls kj48 a0_0 a0_1 a0_2 a0_3 a0_4 a0_5 _ _ l1 _ _ l2 t242 _ ?side1 ?side2 ?side3 ?side4 A59.out).mono ?_
          (case side1 => repeat (first | exact (Kd.C_below HR1.out HB.out) | (with_reducible refine Kd.C_alloc ?_ _) | (with_reducible refine Kd.C_drewN ?_ _) | (with_reducible refine Kd.C_drew ?_)))
          (case side2 => exact HC1.out)
          (case side3 => repeat (first | exact (Kd.V_reads' HO_2.out).2.2 | (with_reducible refine Kd.C_alloc ?_ _) | (with_reducible refine Kd.C_drewN ?_ _) | (with_reducible refine Kd.C_drew ?_)))
          (case side4 => exact (Kd.V_reads' HO_2.out).2.1)
          rintro e w88 ⟨v243, rfl, ho0, hb⟩
          refine ⟨_, rfl, ?_⟩
          have n0_ := Aside0.mk (Kd.V_below (by (with_reducible repeat (first | apply Kd.V_alloc | apply Kd.V_drewN | apply Kd.V_drew)); exact HO_2.out) hb)
          have n1_ := Aside0.mk (Kd.V_below (by (with_reducible repeat (first | apply Kd.V_alloc | apply Kd.V_drewN | apply Kd.V_drew)); exact HO_3.out) hb)
          have n2_ := Aside0.mk (Kd.N_below (by (with_reducible repeat (first | apply Kd.N_alloc | apply Kd.N_drewN | apply Kd.N_drew)); exact HO_11.out) hb)
          have n3_ := Aside0.mk (Kd.V_below (by (with_reducible repeat (first | apply Kd.V_alloc | apply Kd.V_drewN | apply Kd.V_drew)); exact HO241.out) hb)
          have n4_ := Aside0.mk (Kd.V_lower (Kd.V_mono (ok' := fun k_ => ((P2_ k_ ∨ P3_ k_) ∨ w.heap.size ≤ k_) ∧ some k_ ≠ (.slice Ao36 y215.length co36 : Value).ownBlock ∧ k_ ≠ gb206) ho0 (fun k_ hk_ => ⟨(.inr (Nat.le_trans (below_size (by repeat (first | (with_reducible first | exact HB.out | apply below_alloc | apply pw_below_drewN | apply below_drew1 | refine below_set ?_ GE206.out) | exact HB.out))) hk_)), (Kd.fresh' (Kd.N_lt (by (with_reducible repeat (first | apply Kd.N_alloc | apply Kd.N_drewN | apply Kd.N_drew)); exact HO_11.out)) k_ hk_), (Kd.freshB (g := gb206) (o := .cells #[.int .i64 a0_0, .int .i64 a0_1, .int .i64 a0_2, .int .u64 a0_3, .int .u64 a0_4, .int .u64 a0_5] 24 (0, 0)) (by (with_reducible repeat (first | refine blk_drewN ?_ _ | refine blk_drew ?_ | refine blk_alloc ?_ _)); exact BK206.out) k_ hk_)⟩)) (below_size (by repeat (first | (with_reducible first | exact HB.out | apply below_alloc | apply pw_below_drewN | apply below_drew1 | refine below_set ?_ GE206.out) | exact HB.out))))
          have n5_ := Aside0.mk (blk_below (g := gb206) (o := .cells #[.int .i64 a0_0, .int .i64 a0_1, .int .i64 a0_2, .int .u64 a0_3, .int .u64 a0_4, .int .u64 a0_5] 24 (0, 0)) (by (with_reducible repeat (first | refine blk_drewN ?_ _ | refine blk_drew ?_ | refine blk_alloc ?_ _)); exact BK206.out) hb)
          have n6_ := Aside0.mk (below_step (by repeat (first | (with_reducible first | exact HB.out | apply below_alloc | apply pw_below_drewN | apply below_drew1 | refine below_set ?_ GE206.out) | exact HB.out)) hb)
          clear HO_2
          clear HO_3
          clear HO_11
          clear HO241
          clear BK206
          clear HB
          have HO_2 := n0_
          have HO_3 := n1_
          have HO_11 := n2_
          have HO241 := n3_
          have HO244 := n4_
          have BK206 := n5_
          have HB := n6_
          clear n0_ n1_ n2_ n3_ n4_ n5_ n6_
          (try clear hb)
          (try clear hb2)
          (try clear hk)
          (try clear hi)
          (try clear ho0)
          obtain ⟨Ao89, co89, eo89⟩ := Kd.V_slice HO244.out
          (first | subst eo89 | (injection eo89 with f1_ f2_ f3_; have f4_ := f1_.symm; have f5_ := f3_.symm; clear f1_ f2_ f3_; subst f4_; subst f5_))
          refine hK.out _ _ ⟨(blk_cell BK206.out 0).trans rfl, (blk_cell BK206.out 1).trans rfl, (blk_cell BK206.out 2).trans rfl, (blk_cell BK206.out 3).trans rfl, (blk_cell BK206.out 4).trans rfl, (blk_cell BK206.out 5).trans rfl⟩ (fun hHeld => ?_)
          clear hK K
          refine norm_ (a' := ?_) ?_ ?_
          rotate_left
          · show Act.put _ (some 91) _ = _
            simp only [Act.put, sA_, sB_, sC_, i64_w, i32_w]
            rfl
          refine one_ (i := 7) (N := some 93) #[true, true, true, true, true, true, true, true, false, false, false, false, false, false, false, false, false, false, false, false, false, false, false, false, false, false, false, false, false, false, false, false, false, false] rfl rfl (one_of HT_.out (by kernel_rfl)) (by decide) (fun K hK => ?_)
          refine goes_ Try.func10 (by kernel_rfl) rfl #[.agg #[.int .i64 a0_0, .int .i64 a0_1, .int .i64 a0_2, .int .u64 a0_3, .int .u64 a0_4, .int .u64 a0_5], .slice Ao89 t242.length co89, .slice A3 l3.length c3] (by rfl) rfl rfl (by (try simp only [List.map_toArray, List.map_cons, List.map_nil]); first | done | rfl | (simp only [List.length_drop, List.length_take]; rfl)) ?_
          with_reducible refine (impl_ChainBorder.calls kj48 a0_0 a0_1 a0_2 a0_3 a0_4 a0_5 _ _ t242 _ _ l3 t245 _ ?side1 ?side2 ?side3 ?side4 A60.out).mono ?_
          (case side1 => repeat (first | exact (Kd.V_reads' HO244.out).2.2 | (with_reducible refine Kd.C_alloc ?_ _) | (with_reducible refine Kd.C_drewN ?_ _) | (with_reducible refine Kd.C_drew ?_)))
          (case side2 => exact (Kd.V_reads' HO244.out).2.1)
          (case side3 => repeat (first | exact (Kd.V_reads' HO_3.out).2.2 | (with_reducible refine Kd.C_alloc ?_ _) | (with_reducible refine Kd.C_drewN ?_ _) | (with_reducible refine Kd.C_drew ?_)))
          (case side4 => exact (Kd.V_reads' HO_3.out).2.1)
          rintro e w90 ⟨v246, rfl, ho0, hb⟩
          refine ⟨_, rfl, ?_⟩
          have n0_ := Aside0.mk (Kd.V_below (by (with_reducible repeat (first | apply Kd.V_alloc | apply Kd.V_drewN | apply Kd.V_drew)); exact HO_2.out) hb)
          have n1_ := Aside0.mk (Kd.V_below (by (with_reducible repeat (first | apply Kd.V_alloc | apply Kd.V_drewN | apply Kd.V_drew)); exact HO_3.out) hb)
          have n2_ := Aside0.mk (Kd.N_below (by (with_reducible repeat (first | apply Kd.N_alloc | apply Kd.N_drewN | apply Kd.N_drew)); exact HO_11.out) hb)
          have n3_ := Aside0.mk (Kd.V_below (by (with_reducible repeat (first | apply Kd.V_alloc | apply Kd.V_drewN | apply Kd.V_drew)); exact HO241.out) hb)
          have n4_ := Aside0.mk (Kd.V_below (by (with_reducible repeat (first | apply Kd.V_alloc | apply Kd.V_drewN | apply Kd.V_drew)); exact HO244.out) hb)
          have n5_ := Aside0.mk (Kd.V_lower (Kd.V_mono (ok' := fun k_ => ((P2_ k_ ∨ P3_ k_) ∨ w.heap.size ≤ k_) ∧ some k_ ≠ (.slice Ao36 y215.length co36 : Value).ownBlock ∧ k_ ≠ gb206) ho0 (fun k_ hk_ => ⟨(.inr (Nat.le_trans (below_size (by repeat (first | (with_reducible first | exact HB.out | apply below_alloc | apply pw_below_drewN | apply below_drew1 | refine below_set ?_ GE206.out) | exact HB.out))) hk_)), (Kd.fresh' (Kd.N_lt (by (with_reducible repeat (first | apply Kd.N_alloc | apply Kd.N_drewN | apply Kd.N_drew)); exact HO_11.out)) k_ hk_), (Kd.freshB (g := gb206) (o := .cells #[.int .i64 a0_0, .int .i64 a0_1, .int .i64 a0_2, .int .u64 a0_3, .int .u64 a0_4, .int .u64 a0_5] 24 (0, 0)) (by (with_reducible repeat (first | refine blk_drewN ?_ _ | refine blk_drew ?_ | refine blk_alloc ?_ _)); exact BK206.out) k_ hk_)⟩)) (below_size (by repeat (first | (with_reducible first | exact HB.out | apply below_alloc | apply pw_below_drewN | apply below_drew1 | refine below_set ?_ GE206.out) | exact HB.out))))
          have n6_ := Aside0.mk (blk_below (g := gb206) (o := .cells #[.int .i64 a0_0, .int .i64 a0_1, .int .i64 a0_2, .int .u64 a0_3, .int .u64 a0_4, .int .u64 a0_5] 24 (0, 0)) (by (with_reducible repeat (first | refine blk_drewN ?_ _ | refine blk_drew ?_ | refine blk_alloc ?_ _)); exact BK206.out) hb)
          have n7_ := Aside0.mk (below_step (by repeat (first | (with_reducible first | exact HB.out | apply below_alloc | apply pw_below_drewN | apply below_drew1 | refine below_set ?_ GE206.out) | exact HB.out)) hb)
          clear HO_2
          clear HO_3
          clear HO_11
          clear HO241
          clear HO244
          clear BK206
          clear HB
          have HO_2 := n0_
          have HO_3 := n1_
          have HO_11 := n2_
          have HO241 := n3_
          have HO244 := n4_
          have HO247 := n5_
          have BK206 := n6_
          have HB := n7_
          clear n0_ n1_ n2_ n3_ n4_ n5_ n6_ n7_
          (try clear hb)
          (try clear hb2)
          (try clear hk)
          (try clear hi)
          (try clear ho0)
          obtain ⟨Ao91, co91, eo91⟩ := Kd.V_slice HO241.out
          (first | subst eo91 | (injection eo91 with f1_ f2_ f3_; have f4_ := f1_.symm; have f5_ := f3_.symm; clear f1_ f2_ f3_; subst f4_; subst f5_))
          obtain ⟨Ao92, co92, eo92⟩ := Kd.V_slice HO247.out
          (first | subst eo92 | (injection eo92 with f1_ f2_ f3_; have f4_ := f1_.symm; have f5_ := f3_.symm; clear f1_ f2_ f3_; subst f4_; subst f5_))
          refine hK.out _ _ ⟨(blk_cell BK206.out 0).trans rfl, (blk_cell BK206.out 1).trans rfl, (blk_cell BK206.out 2).trans rfl, (blk_cell BK206.out 3).trans rfl, (blk_cell BK206.out 4).trans rfl, (blk_cell BK206.out 5).trans rfl⟩ (fun hHeld => ?_)
          clear hK K
          refine norm_ (a' := ?_) ?_ ?_
          rotate_left
          · show Act.put _ (some 93) _ = _
            simp only [Act.put, sA_, sB_, sC_, i64_w, i32_w]
            rfl
          refine one_ (i := 8) (N := some 94) #[true, true, true, true, true, true, true, true, true, false, false, false, false, false, false, false, false, false, false, false, false, false, false, false, false, false, false, false, false, false, false, false, false, false] rfl rfl (one_of HT_.out (by kernel_rfl)) (by decide) (fun K hK => ?_)
          refine goes_ Try.func7 (by kernel_rfl) rfl #[.slice Ao91 t239.length co91, .slice Ao92 t245.length co92] (by rfl) rfl rfl (by (try simp only [List.map_toArray, List.map_cons, List.map_nil]); first | done | rfl | (simp only [List.length_drop, List.length_take]; rfl)) ?_
          with_reducible refine (spec_SameText.calls _ _ t239 _ _ t245 true _ ?side1 ?side2 ?side3 ?side4 A61.out).mono ?_
          (case side1 => repeat (first | exact (Kd.V_reads' HO241.out).2.2 | (with_reducible refine Kd.C_alloc ?_ _) | (with_reducible refine Kd.C_drewN ?_ _) | (with_reducible refine Kd.C_drew ?_)))
          (case side2 => exact (Kd.V_reads' HO241.out).2.1)
          (case side3 => repeat (first | exact (Kd.V_reads' HO247.out).2.2 | (with_reducible refine Kd.C_alloc ?_ _) | (with_reducible refine Kd.C_drewN ?_ _) | (with_reducible refine Kd.C_drew ?_)))
          (case side4 => exact (Kd.V_reads' HO247.out).2.1)
          rintro e w' ⟨rfl, ⟨nd, rfl⟩⟩
          refine ⟨_, rfl, ?_⟩
          refine hK.out _ _ ⟨(blk_cell BK206.out 0).trans rfl, (blk_cell BK206.out 1).trans rfl, (blk_cell BK206.out 2).trans rfl, (blk_cell BK206.out 3).trans rfl, (blk_cell BK206.out 4).trans rfl, (blk_cell BK206.out 5).trans rfl⟩ (fun hHeld => ?_)
          clear hK K
          refine norm_ (a' := ?_) ?_ ?_
          rotate_left
          · show Act.put _ (some 94) _ = _
            simp only [Act.put, sA_, sB_, sC_, i64_w, i32_w]
            rfl
          refine pure_ (i := 9) (N := some 95) (v := ?_) (a' := ?_) #[true, true, true, true, true, true, true, true, true, true, false, false, false, false, false, false, false, false, false, false, false, false, false, false, false, false, false, false, false, false, false, false, false, false] rfl rfl (any_of HT_.out (by kernel_rfl)) (fun _ _ _ h => h) (Or.inl ⟨by rfl, ?_⟩) ?_ ?_
          rotate_left
          · intro w'
            go_simp
            with_reducible rfl
          rotate_left
          · simp only [Act.put, sA_, sB_, sC_, i64_w, i32_w]
            rfl
          refine pure_ (i := 10) (N := some 96) (v := ?_) (a' := ?_) #[true, true, true, true, true, true, true, true, true, true, true, false, false, false, false, false, false, false, false, false, false, false, false, false, false, false, false, false, false, false, false, false, false, false] rfl rfl (any_of HT_.out (by kernel_rfl)) (fun _ _ _ h => h) (Or.inl ⟨by rfl, ?_⟩) ?_ ?_
          rotate_left
          · intro w'
            go_simp
            with_reducible rfl
          rotate_left
          · simp only [Act.put, sA_, sB_, sC_, i64_w, i32_w]
            rfl
          refine pure_ (i := 12) (N := some 98) (v := ?_) (a' := ?_) #[true, true, true, true, true, true, true, true, true, true, true, false, true, false, false, false, false, false, false, false, false, false, false, false, false, false, false, false, false, false, false, false, false, false] rfl rfl (any_of HT_.out (by kernel_rfl)) (fun _ _ _ h => h) (Or.inl ⟨by rfl, ?_⟩) ?_ ?_
          rotate_left
          · intro w'
            go_simp
            with_reducible rfl
          rotate_left
          · simp only [Act.put, sA_, sB_, sC_, i64_w, i32_w]
            rfl
          refine pure_ (i := 13) (N := some 99) (v := ?_) (a' := ?_) #[true, true, true, true, true, true, true, true, true, true, true, false, true, true, false, false, false, false, false, false, false, false, false, false, false, false, false, false, false, false, false, false, false, false] rfl rfl (any_of HT_.out (by kernel_rfl)) (fun _ _ _ h => h) (Or.inl ⟨by rfl, ?_⟩) ?_ ?_
          rotate_left
          · intro w'
            go_simp
            with_reducible rfl
          rotate_left
          · simp only [Act.put, sA_, sB_, sC_, i64_w, i32_w]
            rfl
          refine take_ (i := 11) (N := some 97) (v := ?_) (a' := ?_) #[true, true, true, true, true, true, true, true, true, true, true, true, true, true, false, false, false, false, false, false, false, false, false, false, false, false, false, false, false, false, false, false, false, false] rfl rfl (take_ofW HT_.out HW_.out (by kernel_rfl)) (fun _ _ _ h => h) (Or.inl ⟨by rfl, ?_⟩) hHeld ?_ ?_
          rotate_left
          · rintro w' ⟨s0, s1, s2, s3, s4, s5⟩
            go_simp
            with_reducible rfl
          rotate_left
          · simp only [Act.put, sA_, sB_, sC_, i64_w, i32_w]
            rfl
          refine one_ (i := 14) (N := some 100) #[true, true, true, true, true, true, true, true, true, true, true, true, true, true, true, false, false, false, false, false, false, false, false, false, false, false, false, false, false, false, false, false, false, false] rfl rfl (one_of HT_.out (by kernel_rfl)) (by decide) (fun K hK => ?_)
          refine goes_ Try.func8 (by kernel_rfl) rfl #[.agg #[.int .i64 a0_0, .int .i64 a0_1, .int .i64 a0_2, .int .u64 a0_3, .int .u64 a0_4, .int .u64 a0_5], .slice A1 l1.length c1, .slice Ao36 y215.length co36, .int .u64 18446744073709551615] (by rfl) rfl rfl (by (try simp only [List.map_toArray, List.map_cons, List.map_nil]); first | done | rfl | (simp only [List.length_drop, List.length_take]; rfl)) ?_
          with_reducible refine (impl_ChainInner.calls kj48 a0_0 a0_1 a0_2 a0_3 a0_4 a0_5 _ _ l1 _ _ y215 18446744073709551615 t249 _ ?side1 ?side2 ?side3 ?side4 A63.out).mono ?_
          (case side1 => repeat (first | exact (Kd.C_below HR1.out (by repeat (first | (with_reducible first | exact HB.out | apply below_alloc | apply pw_below_drewN | apply below_drew1 | refine below_set ?_ GE206.out) | exact HB.out))) | (with_reducible refine Kd.C_alloc ?_ _) | (with_reducible refine Kd.C_drewN ?_ _) | (with_reducible refine Kd.C_drew ?_)))
          (case side2 => exact HC1.out)
          (case side3 => repeat (first | exact (Kd.N_reads' HO_11.out).2.2 | (with_reducible refine Kd.C_alloc ?_ _) | (with_reducible refine Kd.C_drewN ?_ _) | (with_reducible refine Kd.C_drew ?_)))
          (case side4 => exact (Kd.N_reads' HO_11.out).2.1)
          rintro e w93 ⟨v250, rfl, ho0, hb⟩
          refine ⟨_, rfl, ?_⟩
          have n0_ := Aside0.mk (Kd.V_below (by (with_reducible repeat (first | apply Kd.V_alloc | apply Kd.V_drewN | apply Kd.V_drew)); exact HO_2.out) hb)
          have n1_ := Aside0.mk (Kd.V_below (by (with_reducible repeat (first | apply Kd.V_alloc | apply Kd.V_drewN | apply Kd.V_drew)); exact HO_3.out) hb)
          have n2_ := Aside0.mk (Kd.N_below (by (with_reducible repeat (first | apply Kd.N_alloc | apply Kd.N_drewN | apply Kd.N_drew)); exact HO_11.out) hb)
          have n3_ := Aside0.mk (Kd.V_below (by (with_reducible repeat (first | apply Kd.V_alloc | apply Kd.V_drewN | apply Kd.V_drew)); exact HO241.out) hb)
          have n4_ := Aside0.mk (Kd.V_below (by (with_reducible repeat (first | apply Kd.V_alloc | apply Kd.V_drewN | apply Kd.V_drew)); exact HO244.out) hb)
          have n5_ := Aside0.mk (Kd.V_below (by (with_reducible repeat (first | apply Kd.V_alloc | apply Kd.V_drewN | apply Kd.V_drew)); exact HO247.out) hb)
          have n6_ := Aside0.mk (Kd.V_lower (Kd.V_mono (ok' := fun k_ => ((P2_ k_ ∨ P3_ k_) ∨ w.heap.size ≤ k_) ∧ some k_ ≠ (.slice Ao36 y215.length co36 : Value).ownBlock ∧ k_ ≠ gb206) ho0 (fun k_ hk_ => ⟨(.inr (Nat.le_trans (below_size (by repeat (first | (with_reducible first | exact HB.out | apply below_alloc | apply pw_below_drewN | apply below_drew1 | refine below_set ?_ GE206.out) | exact HB.out))) hk_)), (Kd.fresh' (Kd.N_lt (by (with_reducible repeat (first | apply Kd.N_alloc | apply Kd.N_drewN | apply Kd.N_drew)); exact HO_11.out)) k_ hk_), (Kd.freshB (g := gb206) (o := .cells #[.int .i64 a0_0, .int .i64 a0_1, .int .i64 a0_2, .int .u64 a0_3, .int .u64 a0_4, .int .u64 a0_5] 24 (0, 0)) (by (with_reducible repeat (first | refine blk_drewN ?_ _ | refine blk_drew ?_ | refine blk_alloc ?_ _)); exact BK206.out) k_ hk_)⟩)) (below_size (by repeat (first | (with_reducible first | exact HB.out | apply below_alloc | apply pw_below_drewN | apply below_drew1 | refine below_set ?_ GE206.out) | exact HB.out))))
          have n7_ := Aside0.mk (blk_below (g := gb206) (o := .cells #[.int .i64 a0_0, .int .i64 a0_1, .int .i64 a0_2, .int .u64 a0_3, .int .u64 a0_4, .int .u64 a0_5] 24 (0, 0)) (by (with_reducible repeat (first | refine blk_drewN ?_ _ | refine blk_drew ?_ | refine blk_alloc ?_ _)); exact BK206.out) hb)
          have n8_ := Aside0.mk (below_step (by repeat (first | (with_reducible first | exact HB.out | apply below_alloc | apply pw_below_drewN | apply below_drew1 | refine below_set ?_ GE206.out) | exact HB.out)) hb)
          clear HO_2
          clear HO_3
          clear HO_11
          clear HO241
          clear HO244
          clear HO247
          clear BK206
          clear HB
          have HO_2 := n0_
          have HO_3 := n1_
          have HO_11 := n2_
          have HO241 := n3_
          have HO244 := n4_
          have HO247 := n5_
          have HO251 := n6_
          have BK206 := n7_
          have HB := n8_
          clear n0_ n1_ n2_ n3_ n4_ n5_ n6_ n7_ n8_
          (try clear hb)
          (try clear hb2)
          (try clear hk)
          (try clear hi)
          (try clear ho0)
          obtain ⟨Ao94, co94, eo94⟩ := Kd.V_slice HO251.out
          (first | subst eo94 | (injection eo94 with f1_ f2_ f3_; have f4_ := f1_.symm; have f5_ := f3_.symm; clear f1_ f2_ f3_; subst f4_; subst f5_))
          refine hK.out _ _ ⟨(blk_cell BK206.out 0).trans rfl, (blk_cell BK206.out 1).trans rfl, (blk_cell BK206.out 2).trans rfl, (blk_cell BK206.out 3).trans rfl, (blk_cell BK206.out 4).trans rfl, (blk_cell BK206.out 5).trans rfl⟩ (fun hHeld => ?_)
          clear hK K
          refine norm_ (a' := ?_) ?_ ?_
          rotate_left
          · show Act.put _ (some 100) _ = _
            simp only [Act.put, sA_, sB_, sC_, i64_w, i32_w]
            rfl
          refine one_ (i := 15) (N := some 101) #[true, true, true, true, true, true, true, true, true, true, true, true, true, true, true, true, false, false, false, false, false, false, false, false, false, false, false, false, false, false, false, false, false, false] rfl rfl (one_of HT_.out (by kernel_rfl)) (by decide) (fun K hK => ?_)
          refine goes_ Try.func7 (by kernel_rfl) rfl #[.slice Ao91 t239.length co91, .slice Ao94 t249.length co94] (by rfl) rfl rfl (by (try simp only [List.map_toArray, List.map_cons, List.map_nil]); first | done | rfl | (simp only [List.length_drop, List.length_take]; rfl)) ?_
          with_reducible refine (spec_SameText.calls _ _ t239 _ _ t249 true _ ?side1 ?side2 ?side3 ?side4 A64.out).mono ?_
          (case side1 => repeat (first | exact (Kd.V_reads' HO241.out).2.2 | (with_reducible refine Kd.C_alloc ?_ _) | (with_reducible refine Kd.C_drewN ?_ _) | (with_reducible refine Kd.C_drew ?_)))
          (case side2 => exact (Kd.V_reads' HO241.out).2.1)
          (case side3 => repeat (first | exact (Kd.V_reads' HO251.out).2.2 | (with_reducible refine Kd.C_alloc ?_ _) | (with_reducible refine Kd.C_drewN ?_ _) | (with_reducible refine Kd.C_drew ?_)))
          (case side4 => exact (Kd.V_reads' HO251.out).2.1)
          rintro e w' ⟨rfl, ⟨nd, rfl⟩⟩
          refine ⟨_, rfl, ?_⟩
          refine hK.out _ _ ⟨(blk_cell BK206.out 0).trans rfl, (blk_cell BK206.out 1).trans rfl, (blk_cell BK206.out 2).trans rfl, (blk_cell BK206.out 3).trans rfl, (blk_cell BK206.out 4).trans rfl, (blk_cell BK206.out 5).trans rfl⟩ (fun hHeld => ?_)
          clear hK K
          refine norm_ (a' := ?_) ?_ ?_
          rotate_left
          · show Act.put _ (some 101) _ = _
            simp only [Act.put, sA_, sB_, sC_, i64_w, i32_w]
            rfl
          refine pure_ (i := 16) (N := some 102) (v := ?_) (a' := ?_) #[true, true, true, true, true, true, true, true, true, true, true, true, true, true, true, true, true, false, false, false, false, false, false, false, false, false, false, false, false, false, false, false, false, false] rfl rfl (any_of HT_.out (by kernel_rfl)) (fun _ _ _ h => h) (Or.inl ⟨by rfl, ?_⟩) ?_ ?_
          rotate_left
          · intro w'
            go_simp
            with_reducible rfl
          rotate_left
          · simp only [Act.put, sA_, sB_, sC_, i64_w, i32_w]
            rfl
          refine pure_ (i := 17) (N := some 103) (v := ?_) (a' := ?_) #[true, true, true, true, true, true, true, true, true, true, true, true, true, true, true, true, true, true, false, false, false, false, false, false, false, false, false, false, false, false, false, false, false, false] rfl rfl (any_of HT_.out (by kernel_rfl)) (fun _ _ _ h => h) (Or.inl ⟨by rfl, ?_⟩) ?_ ?_
          rotate_left
          · intro w'
            go_simp
            with_reducible rfl
          rotate_left
          · simp only [Act.put, sA_, sB_, sC_, i64_w, i32_w]
            rfl
          refine pure_ (i := 18) (N := some 104) (v := ?_) (a' := ?_) #[true, true, true, true, true, true, true, true, true, true, true, true, true, true, true, true, true, true, true, false, false, false, false, false, false, false, false, false, false, false, false, false, false, false] rfl rfl (any_of HT_.out (by kernel_rfl)) (fun _ _ _ h => h) (Or.inl ⟨by rfl, ?_⟩) ?_ ?_
          rotate_left
          · intro w'
            go_simp
            with_reducible rfl
          rotate_left
          · simp only [Act.put, sA_, sB_, sC_, i64_w, i32_w]
            rfl
          refine pure_ (i := 20) (N := some 106) (v := ?_) (a' := ?_) #[true, true, true, true, true, true, true, true, true, true, true, true, true, true, true, true, true, true, true, false, true, false, false, false, false, false, false, false, false, false, false, false, false, false] rfl rfl (any_of HT_.out (by kernel_rfl)) (fun _ _ _ h => h) (Or.inl ⟨by rfl, ?_⟩) ?_ ?_
          rotate_left
          · intro w'
            go_simp
            with_reducible rfl
          rotate_left
          · simp only [Act.put, sA_, sB_, sC_, i64_w, i32_w]
            rfl
          refine pure_ (i := 21) (N := some 107) (v := ?_) (a' := ?_) #[true, true, true, true, true, true, true, true, true, true, true, true, true, true, true, true, true, true, true, false, true, true, false, false, false, false, false, false, false, false, false, false, false, false] rfl rfl (any_of HT_.out (by kernel_rfl)) (fun _ _ _ h => h) (Or.inl ⟨by rfl, ?_⟩) ?_ ?_
          rotate_left
          · intro w'
            go_simp
            with_reducible rfl
          rotate_left
          · simp only [Act.put, sA_, sB_, sC_, i64_w, i32_w]
            rfl
          refine take_ (i := 19) (N := some 105) (v := ?_) (a' := ?_) #[true, true, true, true, true, true, true, true, true, true, true, true, true, true, true, true, true, true, true, true, true, true, false, false, false, false, false, false, false, false, false, false, false, false] rfl rfl (take_ofW HT_.out HW_.out (by kernel_rfl)) (fun _ _ _ h => h) (Or.inl ⟨by rfl, ?_⟩) hHeld ?_ ?_
          rotate_left
          · rintro w' ⟨s0, s1, s2, s3, s4, s5⟩
            go_simp
            with_reducible rfl
          rotate_left
          · simp only [Act.put, sA_, sB_, sC_, i64_w, i32_w]
            rfl
          refine one_ (i := 22) (N := some 108) #[true, true, true, true, true, true, true, true, true, true, true, true, true, true, true, true, true, true, true, true, true, true, true, false, false, false, false, false, false, false, false, false, false, false] rfl rfl (one_of HT_.out (by kernel_rfl)) (by decide) (fun K hK => ?_)
          refine goes_ Try.func9 (by kernel_rfl) rfl #[.agg #[.int .i64 a0_0, .int .i64 a0_1, .int .i64 a0_2, .int .u64 a0_3, .int .u64 a0_4, .int .u64 a0_5], .slice A1 l1.length c1, .slice Ao36 y215.length co36, .int .u64 18446744073709551615] (by rfl) rfl rfl (by (try simp only [List.map_toArray, List.map_cons, List.map_nil]); first | done | rfl | (simp only [List.length_drop, List.length_take]; rfl)) ?_
          with_reducible refine (impl_ChainInnerRight.calls kj48 a0_0 a0_1 a0_2 a0_3 a0_4 a0_5 _ _ l1 _ _ y215 18446744073709551615 t253 _ ?side1 ?side2 ?side3 ?side4 A66.out).mono ?_
          (case side1 => repeat (first | exact (Kd.C_below HR1.out (by repeat (first | (with_reducible first | exact HB.out | apply below_alloc | apply pw_below_drewN | apply below_drew1 | refine below_set ?_ GE206.out) | exact HB.out))) | (with_reducible refine Kd.C_alloc ?_ _) | (with_reducible refine Kd.C_drewN ?_ _) | (with_reducible refine Kd.C_drew ?_)))
          (case side2 => exact HC1.out)
          (case side3 => repeat (first | exact (Kd.N_reads' HO_11.out).2.2 | (with_reducible refine Kd.C_alloc ?_ _) | (with_reducible refine Kd.C_drewN ?_ _) | (with_reducible refine Kd.C_drew ?_)))
          (case side4 => exact (Kd.N_reads' HO_11.out).2.1)
          rintro e w95 ⟨v254, rfl, ho0, hb⟩
          refine ⟨_, rfl, ?_⟩
          have n0_ := Aside0.mk (Kd.V_below (by (with_reducible repeat (first | apply Kd.V_alloc | apply Kd.V_drewN | apply Kd.V_drew)); exact HO_2.out) hb)
          have n1_ := Aside0.mk (Kd.V_below (by (with_reducible repeat (first | apply Kd.V_alloc | apply Kd.V_drewN | apply Kd.V_drew)); exact HO_3.out) hb)
          have n2_ := Aside0.mk (Kd.N_below (by (with_reducible repeat (first | apply Kd.N_alloc | apply Kd.N_drewN | apply Kd.N_drew)); exact HO_11.out) hb)
          have n3_ := Aside0.mk (Kd.V_below (by (with_reducible repeat (first | apply Kd.V_alloc | apply Kd.V_drewN | apply Kd.V_drew)); exact HO241.out) hb)
          have n4_ := Aside0.mk (Kd.V_below (by (with_reducible repeat (first | apply Kd.V_alloc | apply Kd.V_drewN | apply Kd.V_drew)); exact HO244.out) hb)
          have n5_ := Aside0.mk (Kd.V_below (by (with_reducible repeat (first | apply Kd.V_alloc | apply Kd.V_drewN | apply Kd.V_drew)); exact HO247.out) hb)
          have n6_ := Aside0.mk (Kd.V_below (by (with_reducible repeat (first | apply Kd.V_alloc | apply Kd.V_drewN | apply Kd.V_drew)); exact HO251.out) hb)
          have n7_ := Aside0.mk (Kd.V_lower (Kd.V_mono (ok' := fun k_ => ((P2_ k_ ∨ P3_ k_) ∨ w.heap.size ≤ k_) ∧ some k_ ≠ (.slice Ao36 y215.length co36 : Value).ownBlock ∧ k_ ≠ gb206) ho0 (fun k_ hk_ => ⟨(.inr (Nat.le_trans (below_size (by repeat (first | (with_reducible first | exact HB.out | apply below_alloc | apply pw_below_drewN | apply below_drew1 | refine below_set ?_ GE206.out) | exact HB.out))) hk_)), (Kd.fresh' (Kd.N_lt (by (with_reducible repeat (first | apply Kd.N_alloc | apply Kd.N_drewN | apply Kd.N_drew)); exact HO_11.out)) k_ hk_), (Kd.freshB (g := gb206) (o := .cells #[.int .i64 a0_0, .int .i64 a0_1, .int .i64 a0_2, .int .u64 a0_3, .int .u64 a0_4, .int .u64 a0_5] 24 (0, 0)) (by (with_reducible repeat (first | refine blk_drewN ?_ _ | refine blk_drew ?_ | refine blk_alloc ?_ _)); exact BK206.out) k_ hk_)⟩)) (below_size (by repeat (first | (with_reducible first | exact HB.out | apply below_alloc | apply pw_below_drewN | apply below_drew1 | refine below_set ?_ GE206.out) | exact HB.out))))
          have n8_ := Aside0.mk (blk_below (g := gb206) (o := .cells #[.int .i64 a0_0, .int .i64 a0_1, .int .i64 a0_2, .int .u64 a0_3, .int .u64 a0_4, .int .u64 a0_5] 24 (0, 0)) (by (with_reducible repeat (first | refine blk_drewN ?_ _ | refine blk_drew ?_ | refine blk_alloc ?_ _)); exact BK206.out) hb)
          have n9_ := Aside0.mk (below_step (by repeat (first | (with_reducible first | exact HB.out | apply below_alloc | apply pw_below_drewN | apply below_drew1 | refine below_set ?_ GE206.out) | exact HB.out)) hb)
          clear HO_2
          clear HO_3
          clear HO_11
          clear HO241
          clear HO244
          clear HO247
          clear HO251
          clear BK206
          clear HB
          have HO_2 := n0_
          have HO_3 := n1_
          have HO_11 := n2_
          have HO241 := n3_
          have HO244 := n4_
          have HO247 := n5_
          have HO251 := n6_
          have HO255 := n7_
          have BK206 := n8_
          have HB := n9_
          clear n0_ n1_ n2_ n3_ n4_ n5_ n6_ n7_ n8_ n9_
          (try clear hb)
          (try clear hb2)
          (try clear hk)
          (try clear hi)
          (try clear ho0)
          obtain ⟨Ao96, co96, eo96⟩ := Kd.V_slice HO255.out
          (first | subst eo96 | (injection eo96 with f1_ f2_ f3_; have f4_ := f1_.symm; have f5_ := f3_.symm; clear f1_ f2_ f3_; subst f4_; subst f5_))
          refine hK.out _ _ ⟨(blk_cell BK206.out 0).trans rfl, (blk_cell BK206.out 1).trans rfl, (blk_cell BK206.out 2).trans rfl, (blk_cell BK206.out 3).trans rfl, (blk_cell BK206.out 4).trans rfl, (blk_cell BK206.out 5).trans rfl⟩ (fun hHeld => ?_)
          clear hK K
          refine norm_ (a' := ?_) ?_ ?_
          rotate_left
          · show Act.put _ (some 108) _ = _
            simp only [Act.put, sA_, sB_, sC_, i64_w, i32_w]
            rfl
          refine one_ (i := 23) (N := some 109) #[true, true, true, true, true, true, true, true, true, true, true, true, true, true, true, true, true, true, true, true, true, true, true, true, false, false, false, false, false, false, false, false, false, false] rfl rfl (one_of HT_.out (by kernel_rfl)) (by decide) (fun K hK => ?_)
          refine goes_ Try.func7 (by kernel_rfl) rfl #[.slice Ao91 t239.length co91, .slice Ao96 t253.length co96] (by rfl) rfl rfl (by (try simp only [List.map_toArray, List.map_cons, List.map_nil]); first | done | rfl | (simp only [List.length_drop, List.length_take]; rfl)) ?_
          with_reducible refine (spec_SameText.calls _ _ t239 _ _ t253 false _ ?side1 ?side2 ?side3 ?side4 A67.out).mono ?_
          (case side1 => repeat (first | exact (Kd.V_reads' HO241.out).2.2 | (with_reducible refine Kd.C_alloc ?_ _) | (with_reducible refine Kd.C_drewN ?_ _) | (with_reducible refine Kd.C_drew ?_)))
          (case side2 => exact (Kd.V_reads' HO241.out).2.1)
          (case side3 => repeat (first | exact (Kd.V_reads' HO255.out).2.2 | (with_reducible refine Kd.C_alloc ?_ _) | (with_reducible refine Kd.C_drewN ?_ _) | (with_reducible refine Kd.C_drew ?_)))
          (case side4 => exact (Kd.V_reads' HO255.out).2.1)
          rintro e w' ⟨rfl, ⟨nd, rfl⟩⟩
          refine ⟨_, rfl, ?_⟩
          refine hK.out _ _ ⟨(blk_cell BK206.out 0).trans rfl, (blk_cell BK206.out 1).trans rfl, (blk_cell BK206.out 2).trans rfl, (blk_cell BK206.out 3).trans rfl, (blk_cell BK206.out 4).trans rfl, (blk_cell BK206.out 5).trans rfl⟩ (fun hHeld => ?_)
          clear hK K
          refine norm_ (a' := ?_) ?_ ?_
          rotate_left
          · show Act.put _ (some 109) _ = _
            simp only [Act.put, sA_, sB_, sC_, i64_w, i32_w]
            rfl
          refine pure_ (i := 24) (N := some 110) (v := ?_) (a' := ?_) #[true, true, true, true, true, true, true, true, true, true, true, true, true, true, true, true, true, true, true, true, true, true, true, true, true, false, false, false, false, false, false, false, false, false] rfl rfl (any_of HT_.out (by kernel_rfl)) (fun _ _ _ h => h) (Or.inl ⟨by rfl, ?_⟩) ?_ ?_
          rotate_left
          · intro w'
            go_simp
            with_reducible rfl
          rotate_left
          · simp only [Act.put, sA_, sB_, sC_, i64_w, i32_w]
            rfl
          refine pure_ (i := 25) (N := some 111) (v := ?_) (a' := ?_) #[true, true, true, true, true, true, true, true, true, true, true, true, true, true, true, true, true, true, true, true, true, true, true, true, true, true, false, false, false, false, false, false, false, false] rfl rfl (any_of HT_.out (by kernel_rfl)) (fun _ _ _ h => h) (Or.inl ⟨by rfl, ?_⟩) ?_ ?_
          rotate_left
          · intro w'
            go_simp
            with_reducible rfl
          rotate_left
          · simp only [Act.put, sA_, sB_, sC_, i64_w, i32_w]
            rfl
          refine pure_ (i := 26) (N := some 112) (v := undef) (a' := ?_) #[true, true, true, true, true, true, true, true, true, true, true, true, true, true, true, true, true, true, true, true, true, true, true, true, true, true, true, false, false, false, false, false, false, false] rfl rfl (any_of HT_.out (by kernel_rfl)) (fun _ _ _ h => h) (Or.inr ⟨by rfl, rfl⟩) ?_ ?_
          rotate_left
          · simp only [Act.put, sA_, sB_, sC_, i64_w, i32_w]
            rfl
          refine pure_ (i := 27) (N := some 113) (v := undef) (a' := ?_) #[true, true, true, true, true, true, true, true, true, true, true, true, true, true, true, true, true, true, true, true, true, true, true, true, true, true, true, true, false, false, false, false, false, false] rfl rfl (any_of HT_.out (by kernel_rfl)) (fun _ _ _ h => h) (Or.inr ⟨by rfl, rfl⟩) ?_ ?_
          rotate_left
          · simp only [Act.put, sA_, sB_, sC_, i64_w, i32_w]
            rfl
          refine pure_ (i := 28) (N := some 114) (v := undef) (a' := ?_) #[true, true, true, true, true, true, true, true, true, true, true, true, true, true, true, true, true, true, true, true, true, true, true, true, true, true, true, true, true, false, false, false, false, false] rfl rfl (any_of HT_.out (by kernel_rfl)) (fun _ _ _ h => h) (Or.inr ⟨by rfl, rfl⟩) ?_ ?_
          rotate_left
          · simp only [Act.put, sA_, sB_, sC_, i64_w, i32_w]
            rfl
          refine pure_ (i := 29) (N := some 115) (v := undef) (a' := ?_) #[true, true, true, true, true, true, true, true, true, true, true, true, true, true, true, true, true, true, true, true, true, true, true, true, true, true, true, true, true, true, false, false, false, false] rfl rfl (any_of HT_.out (by kernel_rfl)) (fun _ _ _ h => h) (Or.inr ⟨by rfl, rfl⟩) ?_ ?_
          rotate_left
          · simp only [Act.put, sA_, sB_, sC_, i64_w, i32_w]
            rfl
          refine pure_ (i := 30) (N := some 116) (v := undef) (a' := ?_) #[true, true, true, true, true, true, true, true, true, true, true, true, true, true, true, true, true, true, true, true, true, true, true, true, true, true, true, true, true, true, true, false, false, false] rfl rfl (any_of HT_.out (by kernel_rfl)) (fun _ _ _ h => h) (Or.inr ⟨by rfl, rfl⟩) ?_ ?_
          rotate_left
          · simp only [Act.put, sA_, sB_, sC_, i64_w, i32_w]
            rfl
          refine pure_ (i := 31) (N := some 117) (v := undef) (a' := ?_) #[true, true, true, true, true, true, true, true, true, true, true, true, true, true, true, true, true, true, true, true, true, true, true, true, true, true, true, true, true, true, true, true, false, false] rfl rfl (any_of HT_.out (by kernel_rfl)) (fun _ _ _ h => h) (Or.inr ⟨by rfl, rfl⟩) ?_ ?_
          rotate_left
          · simp only [Act.put, sA_, sB_, sC_, i64_w, i32_w]
            rfl
          refine pure_ (i := 32) (N := some 118) (v := ?_) (a' := ?_) #[true, true, true, true, true, true, true, true, true, true, true, true, true, true, true, true, true, true, true, true, true, true, true, true, true, true, true, true, true, true, true, true, true, false] rfl rfl (any_of HT_.out (by kernel_rfl)) (fun _ _ _ h => h) (Or.inl ⟨by rfl, ?_⟩) ?_ ?_
          rotate_left
          · intro w'
            go_simp
            with_reducible rfl
          rotate_left
          · simp only [Act.put, sA_, sB_, sC_, i64_w, i32_w]
            rfl
          refine pure_ (i := 33) (N := some 10) (v := ?_) (a' := ?_) #[true, true, true, true, true, true, true, true, true, true, true, true, true, true, true, true, true, true, true, true, true, true, true, true, true, true, true, true, true, true, true, true, true, true] rfl rfl (any_of HT_.out (by kernel_rfl)) (fun _ _ _ h => h) (Or.inl ⟨by rfl, ?_⟩) ?_ ?_
          rotate_left
          · intro w'
            go_simp
            with_reducible rfl
          rotate_left
          · simp only [Act.put, sA_, sB_, sC_, i64_w, i32_w]
            rfl
          refine done_ (done_of HT_.out (by kernel_rfl)) ?_
          try go_wp2
          go_ret
          exact ⟨by first | rfl | (simp [errW_none, errW_some] <;> rfl) | (simp only [← hji31, ← hji46]; first | rfl | (simp [errW_none, errW_some] <;> rfl)) | (simp [*, errW_none, errW_some] <;> rfl), by repeat (first | (with_reducible first | exact HB.out | apply below_alloc | apply pw_below_drewN | apply below_drew1 | refine below_set ?_ GE206.out) | exact HB.out)⟩
        replace c65 := Bool.eq_false_iff.mpr c65
        subst c65
        have H1 : (some false) = some r := by rw [if_neg (show ¬ (false = true) by decide)] at H; exact H
        clear H
        have H := H1
        clear H1
        obtain rfl := Option.some.inj H
        have hcz97_0 : wc.cell? ⟨gb206, 0, none⟩ = some (.int .i64 a0_0) := (blk_cell BK206.out 0).trans rfl
        have hcz97_1 : wc.cell? ⟨gb206, 1, none⟩ = some (.int .i64 a0_1) := (blk_cell BK206.out 1).trans rfl
        have hcz97_2 : wc.cell? ⟨gb206, 2, none⟩ = some (.int .i64 a0_2) := (blk_cell BK206.out 2).trans rfl
        have hcz97_3 : wc.cell? ⟨gb206, 3, none⟩ = some (.int .u64 a0_3) := (blk_cell BK206.out 3).trans rfl
        have hcz97_4 : wc.cell? ⟨gb206, 4, none⟩ = some (.int .u64 a0_4) := (blk_cell BK206.out 4).trans rfl
        have hcz97_5 : wc.cell? ⟨gb206, 5, none⟩ = some (.int .u64 a0_5) := (blk_cell BK206.out 5).trans rfl
        have hfz97_0 := blk_frozen BK206.out 0
        have hfz97_1 := blk_frozen BK206.out 1
        have hfz97_2 := blk_frozen BK206.out 2
        have hfz97_3 := blk_frozen BK206.out 3
        have hfz97_4 := blk_frozen BK206.out 4
        have hfz97_5 := blk_frozen BK206.out 5
        try go_wp2_with (first | ((with_reducible refine gate_callee (f := 10) rfl ?_); refine goesL_ (some 85) rfl rfl Try.func10 (by kernel_rfl) rfl #[.agg #[.int .i64 a0_0, .int .i64 a0_1, .int .i64 a0_2, .int .u64 a0_3, .int .u64 a0_4, .int .u64 a0_5], .slice A1 l1.length c1, .slice Ao36 y215.length co36] rfl (by (try simp only [List.map_toArray, List.map_cons, List.map_nil]); first | done | rfl | (simp only [List.length_drop, List.length_take]; rfl)) ?_; (with_reducible refine (impl_ChainBorder.calls kj48 a0_0 a0_1 a0_2 a0_3 a0_4 a0_5 _ _ l1 _ _ y215 t239 _ ?side1 ?side2 ?side3 ?side4 A58.out).mono ?_); (case side1 => repeat (first | exact (Kd.C_below HR1.out HB.out) | (with_reducible refine Kd.C_alloc ?_ _) | (with_reducible refine Kd.C_drewN ?_ _) | (with_reducible refine Kd.C_drew ?_))); (case side2 => exact HC1.out); (case side3 => repeat (first | exact (Kd.N_reads' HO_11.out).2.2 | (with_reducible refine Kd.C_alloc ?_ _) | (with_reducible refine Kd.C_drewN ?_ _) | (with_reducible refine Kd.C_drew ?_))); (case side4 => exact (Kd.N_reads' HO_11.out).2.1); rintro e w98 ⟨v240, rfl, ho0, hb⟩; refine ⟨_, rfl, ?_⟩; have n0_ := Aside0.mk (Kd.V_below (by (with_reducible repeat (first | apply Kd.V_alloc | apply Kd.V_drewN | apply Kd.V_drew)); exact HO_2.out) hb); have n1_ := Aside0.mk (Kd.V_below (by (with_reducible repeat (first | apply Kd.V_alloc | apply Kd.V_drewN | apply Kd.V_drew)); exact HO_3.out) hb); have n2_ := Aside0.mk (Kd.N_below (by (with_reducible repeat (first | apply Kd.N_alloc | apply Kd.N_drewN | apply Kd.N_drew)); exact HO_11.out) hb); have n3_ := Aside0.mk (Kd.V_lower (Kd.V_mono (ok' := fun k_ => ((P2_ k_ ∨ P3_ k_) ∨ w.heap.size ≤ k_) ∧ some k_ ≠ (.slice Ao36 y215.length co36 : Value).ownBlock ∧ k_ ≠ gb206) ho0 (fun k_ hk_ => ⟨(.inr (Nat.le_trans (below_size (by repeat (first | (with_reducible first | exact HB.out | apply below_alloc | apply pw_below_drewN | apply below_drew1 | refine below_set ?_ GE206.out) | exact HB.out))) hk_)), (Kd.fresh' (Kd.N_lt (by (with_reducible repeat (first | apply Kd.N_alloc | apply Kd.N_drewN | apply Kd.N_drew)); exact HO_11.out)) k_ hk_), (Kd.freshB (g := gb206) (o := .cells #[.int .i64 a0_0, .int .i64 a0_1, .int .i64 a0_2, .int .u64 a0_3, .int .u64 a0_4, .int .u64 a0_5] 24 (0, 0)) (by (with_reducible repeat (first | refine blk_drewN ?_ _ | refine blk_drew ?_ | refine blk_alloc ?_ _)); exact BK206.out) k_ hk_)⟩)) (below_size (by repeat (first | (with_reducible first | exact HB.out | apply below_alloc | apply pw_below_drewN | apply below_drew1 | refine below_set ?_ GE206.out) | exact HB.out)))); have n4_ := Aside0.mk (blk_below (g := gb206) (o := .cells #[.int .i64 a0_0, .int .i64 a0_1, .int .i64 a0_2, .int .u64 a0_3, .int .u64 a0_4, .int .u64 a0_5] 24 (0, 0)) (by (with_reducible repeat (first | refine blk_drewN ?_ _ | refine blk_drew ?_ | refine blk_alloc ?_ _)); exact BK206.out) hb); have n5_ := Aside0.mk (below_step (by repeat (first | (with_reducible first | exact HB.out | apply below_alloc | apply pw_below_drewN | apply below_drew1 | refine below_set ?_ GE206.out) | exact HB.out)) hb); clear HO_2; clear HO_3; clear HO_11; clear BK206; clear HB; have HO_2 := n0_; have HO_3 := n1_; have HO_11 := n2_; have HO241 := n3_; have BK206 := n4_; have HB := n5_; clear n0_ n1_ n2_ n3_ n4_ n5_; (try clear hb); (try clear hb2); (try clear hk); (try clear hi); (try clear ho0)))
        have n0_ := Aside0.mk (Kd.V_drew HO_2.out)
        have n1_ := Aside0.mk (Kd.V_drew HO_3.out)
        have n2_ := Aside0.mk (Kd.N_drew HO_11.out)
        have n3_ := Aside0.mk (Kd.V_drew HO241.out)
        have n4_ := Aside0.mk (blk_drew BK206.out)
        have n5_ := Aside0.mk (below_drew1 HB.out)
        clear HO_2
        clear HO_3
        clear HO_11
        clear HO241
        clear BK206
        clear HB
        have HO_2 := n0_
        have HO_3 := n1_
        have HO_11 := n2_
        have HO241 := n3_
        have BK206 := n4_
        have HB := n5_
        clear n0_ n1_ n2_ n3_ n4_ n5_
        refine start_ (n := 34) (S := fun w' => w'.cell? ⟨gb206, 0, none⟩ = some (.int .i64 a0_0) ∧ w'.cell? ⟨gb206, 1, none⟩ = some (.int .i64 a0_1) ∧ w'.cell? ⟨gb206, 2, none⟩ = some (.int .i64 a0_2) ∧ w'.cell? ⟨gb206, 3, none⟩ = some (.int .u64 a0_3) ∧ w'.cell? ⟨gb206, 4, none⟩ = some (.int .u64 a0_4) ∧ w'.cell? ⟨gb206, 5, none⟩ = some (.int .u64 a0_5)) (ds := []) #[false, false, false, false, false, false, false, false, false, false, false, false, false, false, false, false, false, false, false, false, false, false, false, false, false, false, false, false, false, false, false, false, false, false] (by kernel_rfl) rfl rfl ⟨(blk_cell BK206.out 0).trans rfl, (blk_cell BK206.out 1).trans rfl, (blk_cell BK206.out 2).trans rfl, (blk_cell BK206.out 3).trans rfl, (blk_cell BK206.out 4).trans rfl, (blk_cell BK206.out 5).trans rfl⟩ (fun hHeld => ?_); refine with_tabW laws_FnChainsInParts.tab11 laws_FnChainsInParts.bits11 (fun HT_ HW_ => ?_)
        generalize w98.drew = w99 at HO_2 HO_3 HO_11 HO241 BK206 HB hHeld ⊢
        refine pure_ (i := 0) (N := some 86) (v := ?_) (a' := ?_) #[true, false, false, false, false, false, false, false, false, false, false, false, false, false, false, false, false, false, false, false, false, false, false, false, false, false, false, false, false, false, false, false, false, false] rfl rfl (any_of HT_.out (by kernel_rfl)) (fun _ _ _ h => h) (Or.inl ⟨by rfl, ?_⟩) ?_ ?_
        rotate_left
        · intro w'
          go_simp
          with_reducible rfl
        rotate_left
        · simp only [Act.put, sA_, sB_, sC_, i64_w, i32_w]
          rfl
        refine pure_ (i := 3) (N := some 89) (v := ?_) (a' := ?_) #[true, false, false, true, false, false, false, false, false, false, false, false, false, false, false, false, false, false, false, false, false, false, false, false, false, false, false, false, false, false, false, false, false, false] rfl rfl (any_of HT_.out (by kernel_rfl)) (fun _ _ _ h => h) (Or.inl ⟨by rfl, ?_⟩) ?_ ?_
        rotate_left
        · intro w'
          go_simp
          with_reducible rfl
        rotate_left
        · simp only [Act.put, sA_, sB_, sC_, i64_w, i32_w]
          rfl
        refine pure_ (i := 4) (N := some 90) (v := ?_) (a' := ?_) #[true, false, false, true, true, false, false, false, false, false, false, false, false, false, false, false, false, false, false, false, false, false, false, false, false, false, false, false, false, false, false, false, false, false] rfl rfl (any_of HT_.out (by kernel_rfl)) (fun _ _ _ h => h) (Or.inl ⟨by rfl, ?_⟩) ?_ ?_
        rotate_left
        · intro w'
          go_simp
          with_reducible rfl
        rotate_left
        · simp only [Act.put, sA_, sB_, sC_, i64_w, i32_w]
          rfl
        refine pure_ (i := 6) (N := some 92) (v := ?_) (a' := ?_) #[true, false, false, true, true, false, true, false, false, false, false, false, false, false, false, false, false, false, false, false, false, false, false, false, false, false, false, false, false, false, false, false, false, false] rfl rfl (any_of HT_.out (by kernel_rfl)) (fun _ _ _ h => h) (Or.inl ⟨by rfl, ?_⟩) ?_ ?_
        rotate_left
        · intro w'
          go_simp
          with_reducible rfl
        rotate_left
        · simp only [Act.put, sA_, sB_, sC_, i64_w, i32_w]
          rfl
        refine take_ (i := 1) (N := some 87) (v := ?_) (a' := ?_) #[true, true, false, true, true, false, true, false, false, false, false, false, false, false, false, false, false, false, false, false, false, false, false, false, false, false, false, false, false, false, false, false, false, false] rfl rfl (take_ofW HT_.out HW_.out (by kernel_rfl)) (fun _ _ _ h => h) (Or.inl ⟨by rfl, ?_⟩) hHeld ?_ ?_
        rotate_left
        · rintro w' ⟨s0, s1, s2, s3, s4, s5⟩
          go_simp
          with_reducible rfl
        rotate_left
        · simp only [Act.put, sA_, sB_, sC_, i64_w, i32_w]
          rfl
        refine take_ (i := 2) (N := some 88) (v := ?_) (a' := ?_) #[true, true, true, true, true, false, true, false, false, false, false, false, false, false, false, false, false, false, false, false, false, false, false, false, false, false, false, false, false, false, false, false, false, false] rfl rfl (take_ofW HT_.out HW_.out (by kernel_rfl)) (fun _ _ _ h => h) (Or.inl ⟨by rfl, ?_⟩) hHeld ?_ ?_
        rotate_left
        · rintro w' ⟨s0, s1, s2, s3, s4, s5⟩
          go_simp
          with_reducible rfl
        rotate_left
        · simp only [Act.put, sA_, sB_, sC_, i64_w, i32_w]
          rfl
        refine one_ (i := 5) (N := some 91) #[true, true, true, true, true, true, true, false, false, false, false, false, false, false, false, false, false, false, false, false, false, false, false, false, false, false, false, false, false, false, false, false, false, false] rfl rfl (one_of HT_.out (by kernel_rfl)) (by decide) (fun K hK => ?_)
        refine goes_ Try.func10 (by kernel_rfl) rfl #[.agg #[.int .i64 a0_0, .int .i64 a0_1, .int .i64 a0_2, .int .u64 a0_3, .int .u64 a0_4, .int .u64 a0_5], .slice A1 l1.length c1, .slice A2 l2.length c2] (by rfl) rfl rfl (by (try simp only [List.map_toArray, List.map_cons, List.map_nil]); first | done | rfl | (simp only [List.length_drop, List.length_take]; rfl)) ?_
        with_reducible refine (impl_ChainBorder.calls kj48 a0_0 a0_1 a0_2 a0_3 a0_4 a0_5 _ _ l1 _ _ l2 t242 _ ?side1 ?side2 ?side3 ?side4 A59.out).mono ?_
        (case side1 => repeat (first | exact (Kd.C_below HR1.out HB.out) | (with_reducible refine Kd.C_alloc ?_ _) | (with_reducible refine Kd.C_drewN ?_ _) | (with_reducible refine Kd.C_drew ?_)))
        (case side2 => exact HC1.out)
        (case side3 => repeat (first | exact (Kd.V_reads' HO_2.out).2.2 | (with_reducible refine Kd.C_alloc ?_ _) | (with_reducible refine Kd.C_drewN ?_ _) | (with_reducible refine Kd.C_drew ?_)))
        (case side4 => exact (Kd.V_reads' HO_2.out).2.1)
        rintro e w100 ⟨v243, rfl, ho0, hb⟩
        refine ⟨_, rfl, ?_⟩
        have n0_ := Aside0.mk (Kd.V_below (by (with_reducible repeat (first | apply Kd.V_alloc | apply Kd.V_drewN | apply Kd.V_drew)); exact HO_2.out) hb)
        have n1_ := Aside0.mk (Kd.V_below (by (with_reducible repeat (first | apply Kd.V_alloc | apply Kd.V_drewN | apply Kd.V_drew)); exact HO_3.out) hb)
        have n2_ := Aside0.mk (Kd.N_below (by (with_reducible repeat (first | apply Kd.N_alloc | apply Kd.N_drewN | apply Kd.N_drew)); exact HO_11.out) hb)
        have n3_ := Aside0.mk (Kd.V_below (by (with_reducible repeat (first | apply Kd.V_alloc | apply Kd.V_drewN | apply Kd.V_drew)); exact HO241.out) hb)
        have n4_ := Aside0.mk (Kd.V_lower (Kd.V_mono (ok' := fun k_ => ((P2_ k_ ∨ P3_ k_) ∨ w.heap.size ≤ k_) ∧ some k_ ≠ (.slice Ao36 y215.length co36 : Value).ownBlock ∧ k_ ≠ gb206) ho0 (fun k_ hk_ => ⟨(.inr (Nat.le_trans (below_size (by repeat (first | (with_reducible first | exact HB.out | apply below_alloc | apply pw_below_drewN | apply below_drew1 | refine below_set ?_ GE206.out) | exact HB.out))) hk_)), (Kd.fresh' (Kd.N_lt (by (with_reducible repeat (first | apply Kd.N_alloc | apply Kd.N_drewN | apply Kd.N_drew)); exact HO_11.out)) k_ hk_), (Kd.freshB (g := gb206) (o := .cells #[.int .i64 a0_0, .int .i64 a0_1, .int .i64 a0_2, .int .u64 a0_3, .int .u64 a0_4, .int .u64 a0_5] 24 (0, 0)) (by (with_reducible repeat (first | refine blk_drewN ?_ _ | refine blk_drew ?_ | refine blk_alloc ?_ _)); exact BK206.out) k_ hk_)⟩)) (below_size (by repeat (first | (with_reducible first | exact HB.out | apply below_alloc | apply pw_below_drewN | apply below_drew1 | refine below_set ?_ GE206.out) | exact HB.out))))
        have n5_ := Aside0.mk (blk_below (g := gb206) (o := .cells #[.int .i64 a0_0, .int .i64 a0_1, .int .i64 a0_2, .int .u64 a0_3, .int .u64 a0_4, .int .u64 a0_5] 24 (0, 0)) (by (with_reducible repeat (first | refine blk_drewN ?_ _ | refine blk_drew ?_ | refine blk_alloc ?_ _)); exact BK206.out) hb)
        have n6_ := Aside0.mk (below_step (by repeat (first | (with_reducible first | exact HB.out | apply below_alloc | apply pw_below_drewN | apply below_drew1 | refine below_set ?_ GE206.out) | exact HB.out)) hb)
        clear HO_2
        clear HO_3
        clear HO_11
        clear HO241
        clear BK206
        clear HB
        have HO_2 := n0_
        have HO_3 := n1_
        have HO_11 := n2_
        have HO241 := n3_
        have HO244 := n4_
        have BK206 := n5_
        have HB := n6_
        clear n0_ n1_ n2_ n3_ n4_ n5_ n6_
        (try clear hb)
        (try clear hb2)
        (try clear hk)
        (try clear hi)
        (try clear ho0)
        obtain ⟨Ao101, co101, eo101⟩ := Kd.V_slice HO244.out
        (first | subst eo101 | (injection eo101 with f1_ f2_ f3_; have f4_ := f1_.symm; have f5_ := f3_.symm; clear f1_ f2_ f3_; subst f4_; subst f5_))
        refine hK.out _ _ ⟨(blk_cell BK206.out 0).trans rfl, (blk_cell BK206.out 1).trans rfl, (blk_cell BK206.out 2).trans rfl, (blk_cell BK206.out 3).trans rfl, (blk_cell BK206.out 4).trans rfl, (blk_cell BK206.out 5).trans rfl⟩ (fun hHeld => ?_)
        clear hK K
        refine norm_ (a' := ?_) ?_ ?_
        rotate_left
        · show Act.put _ (some 91) _ = _
          simp only [Act.put, sA_, sB_, sC_, i64_w, i32_w]
          rfl
        refine one_ (i := 7) (N := some 93) #[true, true, true, true, true, true, true, true, false, false, false, false, false, false, false, false, false, false, false, false, false, false, false, false, false, false, false, false, false, false, false, false, false, false] rfl rfl (one_of HT_.out (by kernel_rfl)) (by decide) (fun K hK => ?_)
        refine goes_ Try.func10 (by kernel_rfl) rfl #[.agg #[.int .i64 a0_0, .int .i64 a0_1, .int .i64 a0_2, .int .u64 a0_3, .int .u64 a0_4, .int .u64 a0_5], .slice Ao101 t242.length co101, .slice A3 l3.length c3] (by rfl) rfl rfl (by (try simp only [List.map_toArray, List.map_cons, List.map_nil]); first | done | rfl | (simp only [List.length_drop, List.length_take]; rfl)) ?_
        with_reducible refine (impl_ChainBorder.calls kj48 a0_0 a0_1 a0_2 a0_3 a0_4 a0_5 _ _ t242 _ _ l3 t245 _ ?side1 ?side2 ?side3 ?side4 A60.out).mono ?_
        (case side1 => repeat (first | exact (Kd.V_reads' HO244.out).2.2 | (with_reducible refine Kd.C_alloc ?_ _) | (with_reducible refine Kd.C_drewN ?_ _) | (with_reducible refine Kd.C_drew ?_)))
        (case side2 => exact (Kd.V_reads' HO244.out).2.1)
        (case side3 => repeat (first | exact (Kd.V_reads' HO_3.out).2.2 | (with_reducible refine Kd.C_alloc ?_ _) | (with_reducible refine Kd.C_drewN ?_ _) | (with_reducible refine Kd.C_drew ?_)))
        (case side4 => exact (Kd.V_reads' HO_3.out).2.1)
        rintro e w102 ⟨v246, rfl, ho0, hb⟩
        refine ⟨_, rfl, ?_⟩
        have n0_ := Aside0.mk (Kd.V_below (by (with_reducible repeat (first | apply Kd.V_alloc | apply Kd.V_drewN | apply Kd.V_drew)); exact HO_2.out) hb)
        have n1_ := Aside0.mk (Kd.V_below (by (with_reducible repeat (first | apply Kd.V_alloc | apply Kd.V_drewN | apply Kd.V_drew)); exact HO_3.out) hb)
        have n2_ := Aside0.mk (Kd.N_below (by (with_reducible repeat (first | apply Kd.N_alloc | apply Kd.N_drewN | apply Kd.N_drew)); exact HO_11.out) hb)
        have n3_ := Aside0.mk (Kd.V_below (by (with_reducible repeat (first | apply Kd.V_alloc | apply Kd.V_drewN | apply Kd.V_drew)); exact HO241.out) hb)
        have n4_ := Aside0.mk (Kd.V_below (by (with_reducible repeat (first | apply Kd.V_alloc | apply Kd.V_drewN | apply Kd.V_drew)); exact HO244.out) hb)
        have n5_ := Aside0.mk (Kd.V_lower (Kd.V_mono (ok' := fun k_ => ((P2_ k_ ∨ P3_ k_) ∨ w.heap.size ≤ k_) ∧ some k_ ≠ (.slice Ao36 y215.length co36 : Value).ownBlock ∧ k_ ≠ gb206) ho0 (fun k_ hk_ => ⟨(.inr (Nat.le_trans (below_size (by repeat (first | (with_reducible first | exact HB.out | apply below_alloc | apply pw_below_drewN | apply below_drew1 | refine below_set ?_ GE206.out) | exact HB.out))) hk_)), (Kd.fresh' (Kd.N_lt (by (with_reducible repeat (first | apply Kd.N_alloc | apply Kd.N_drewN | apply Kd.N_drew)); exact HO_11.out)) k_ hk_), (Kd.freshB (g := gb206) (o := .cells #[.int .i64 a0_0, .int .i64 a0_1, .int .i64 a0_2, .int .u64 a0_3, .int .u64 a0_4, .int .u64 a0_5] 24 (0, 0)) (by (with_reducible repeat (first | refine blk_drewN ?_ _ | refine blk_drew ?_ | refine blk_alloc ?_ _)); exact BK206.out) k_ hk_)⟩)) (below_size (by repeat (first | (with_reducible first | exact HB.out | apply below_alloc | apply pw_below_drewN | apply below_drew1 | refine below_set ?_ GE206.out) | exact HB.out))))
        have n6_ := Aside0.mk (blk_below (g := gb206) (o := .cells #[.int .i64 a0_0, .int .i64 a0_1, .int .i64 a0_2, .int .u64 a0_3, .int .u64 a0_4, .int .u64 a0_5] 24 (0, 0)) (by (with_reducible repeat (first | refine blk_drewN ?_ _ | refine blk_drew ?_ | refine blk_alloc ?_ _)); exact BK206.out) hb)
        have n7_ := Aside0.mk (below_step (by repeat (first | (with_reducible first | exact HB.out | apply below_alloc | apply pw_below_drewN | apply below_drew1 | refine below_set ?_ GE206.out) | exact HB.out)) hb)
        clear HO_2
        clear HO_3
        clear HO_11
        clear HO241
        clear HO244
        clear BK206
        clear HB
        have HO_2 := n0_
        have HO_3 := n1_
        have HO_11 := n2_
        have HO241 := n3_
        have HO244 := n4_
        have HO247 := n5_
        have BK206 := n6_
        have HB := n7_
        clear n0_ n1_ n2_ n3_ n4_ n5_ n6_ n7_
        (try clear hb)
        (try clear hb2)
        (try clear hk)
        (try clear hi)
        (try clear ho0)
        obtain ⟨Ao103, co103, eo103⟩ := Kd.V_slice HO241.out
        (first | subst eo103 | (injection eo103 with f1_ f2_ f3_; have f4_ := f1_.symm; have f5_ := f3_.symm; clear f1_ f2_ f3_; subst f4_; subst f5_))
        obtain ⟨Ao104, co104, eo104⟩ := Kd.V_slice HO247.out
        (first | subst eo104 | (injection eo104 with f1_ f2_ f3_; have f4_ := f1_.symm; have f5_ := f3_.symm; clear f1_ f2_ f3_; subst f4_; subst f5_))
        refine hK.out _ _ ⟨(blk_cell BK206.out 0).trans rfl, (blk_cell BK206.out 1).trans rfl, (blk_cell BK206.out 2).trans rfl, (blk_cell BK206.out 3).trans rfl, (blk_cell BK206.out 4).trans rfl, (blk_cell BK206.out 5).trans rfl⟩ (fun hHeld => ?_)
        clear hK K
        refine norm_ (a' := ?_) ?_ ?_
        rotate_left
        · show Act.put _ (some 93) _ = _
          simp only [Act.put, sA_, sB_, sC_, i64_w, i32_w]
          rfl
        refine one_ (i := 8) (N := some 94) #[true, true, true, true, true, true, true, true, true, false, false, false, false, false, false, false, false, false, false, false, false, false, false, false, false, false, false, false, false, false, false, false, false, false] rfl rfl (one_of HT_.out (by kernel_rfl)) (by decide) (fun K hK => ?_)
        refine goes_ Try.func7 (by kernel_rfl) rfl #[.slice Ao103 t239.length co103, .slice Ao104 t245.length co104] (by rfl) rfl rfl (by (try simp only [List.map_toArray, List.map_cons, List.map_nil]); first | done | rfl | (simp only [List.length_drop, List.length_take]; rfl)) ?_
        with_reducible refine (spec_SameText.calls _ _ t239 _ _ t245 true _ ?side1 ?side2 ?side3 ?side4 A61.out).mono ?_
        (case side1 => repeat (first | exact (Kd.V_reads' HO241.out).2.2 | (with_reducible refine Kd.C_alloc ?_ _) | (with_reducible refine Kd.C_drewN ?_ _) | (with_reducible refine Kd.C_drew ?_)))
        (case side2 => exact (Kd.V_reads' HO241.out).2.1)
        (case side3 => repeat (first | exact (Kd.V_reads' HO247.out).2.2 | (with_reducible refine Kd.C_alloc ?_ _) | (with_reducible refine Kd.C_drewN ?_ _) | (with_reducible refine Kd.C_drew ?_)))
        (case side4 => exact (Kd.V_reads' HO247.out).2.1)
        rintro e w' ⟨rfl, ⟨nd, rfl⟩⟩
        refine ⟨_, rfl, ?_⟩
        refine hK.out _ _ ⟨(blk_cell BK206.out 0).trans rfl, (blk_cell BK206.out 1).trans rfl, (blk_cell BK206.out 2).trans rfl, (blk_cell BK206.out 3).trans rfl, (blk_cell BK206.out 4).trans rfl, (blk_cell BK206.out 5).trans rfl⟩ (fun hHeld => ?_)
        clear hK K
        refine norm_ (a' := ?_) ?_ ?_
        rotate_left
        · show Act.put _ (some 94) _ = _
          simp only [Act.put, sA_, sB_, sC_, i64_w, i32_w]
          rfl
        refine pure_ (i := 9) (N := some 95) (v := ?_) (a' := ?_) #[true, true, true, true, true, true, true, true, true, true, false, false, false, false, false, false, false, false, false, false, false, false, false, false, false, false, false, false, false, false, false, false, false, false] rfl rfl (any_of HT_.out (by kernel_rfl)) (fun _ _ _ h => h) (Or.inl ⟨by rfl, ?_⟩) ?_ ?_
        rotate_left
        · intro w'
          go_simp
          with_reducible rfl
        rotate_left
        · simp only [Act.put, sA_, sB_, sC_, i64_w, i32_w]
          rfl
        refine pure_ (i := 10) (N := some 96) (v := ?_) (a' := ?_) #[true, true, true, true, true, true, true, true, true, true, true, false, false, false, false, false, false, false, false, false, false, false, false, false, false, false, false, false, false, false, false, false, false, false] rfl rfl (any_of HT_.out (by kernel_rfl)) (fun _ _ _ h => h) (Or.inl ⟨by rfl, ?_⟩) ?_ ?_
        rotate_left
        · intro w'
          go_simp
          with_reducible rfl
        rotate_left
        · simp only [Act.put, sA_, sB_, sC_, i64_w, i32_w]
          rfl
        refine pure_ (i := 12) (N := some 98) (v := ?_) (a' := ?_) #[true, true, true, true, true, true, true, true, true, true, true, false, true, false, false, false, false, false, false, false, false, false, false, false, false, false, false, false, false, false, false, false, false, false] rfl rfl (any_of HT_.out (by kernel_rfl)) (fun _ _ _ h => h) (Or.inl ⟨by rfl, ?_⟩) ?_ ?_
        rotate_left
        · intro w'
          go_simp
          with_reducible rfl
        rotate_left
        · simp only [Act.put, sA_, sB_, sC_, i64_w, i32_w]
          rfl
        refine pure_ (i := 13) (N := some 99) (v := ?_) (a' := ?_) #[true, true, true, true, true, true, true, true, true, true, true, false, true, true, false, false, false, false, false, false, false, false, false, false, false, false, false, false, false, false, false, false, false, false] rfl rfl (any_of HT_.out (by kernel_rfl)) (fun _ _ _ h => h) (Or.inl ⟨by rfl, ?_⟩) ?_ ?_
        rotate_left
        · intro w'
          go_simp
          with_reducible rfl
        rotate_left
        · simp only [Act.put, sA_, sB_, sC_, i64_w, i32_w]
          rfl
        refine take_ (i := 11) (N := some 97) (v := ?_) (a' := ?_) #[true, true, true, true, true, true, true, true, true, true, true, true, true, true, false, false, false, false, false, false, false, false, false, false, false, false, false, false, false, false, false, false, false, false] rfl rfl (take_ofW HT_.out HW_.out (by kernel_rfl)) (fun _ _ _ h => h) (Or.inl ⟨by rfl, ?_⟩) hHeld ?_ ?_
        rotate_left
        · rintro w' ⟨s0, s1, s2, s3, s4, s5⟩
          go_simp
          with_reducible rfl
        rotate_left
        · simp only [Act.put, sA_, sB_, sC_, i64_w, i32_w]
          rfl
        refine one_ (i := 14) (N := some 100) #[true, true, true, true, true, true, true, true, true, true, true, true, true, true, true, false, false, false, false, false, false, false, false, false, false, false, false, false, false, false, false, false, false, false] rfl rfl (one_of HT_.out (by kernel_rfl)) (by decide) (fun K hK => ?_)
        refine goes_ Try.func8 (by kernel_rfl) rfl #[.agg #[.int .i64 a0_0, .int .i64 a0_1, .int .i64 a0_2, .int .u64 a0_3, .int .u64 a0_4, .int .u64 a0_5], .slice A1 l1.length c1, .slice Ao36 y215.length co36, .int .u64 18446744073709551615] (by rfl) rfl rfl (by (try simp only [List.map_toArray, List.map_cons, List.map_nil]); first | done | rfl | (simp only [List.length_drop, List.length_take]; rfl)) ?_
        with_reducible refine (impl_ChainInner.calls kj48 a0_0 a0_1 a0_2 a0_3 a0_4 a0_5 _ _ l1 _ _ y215 18446744073709551615 t249 _ ?side1 ?side2 ?side3 ?side4 A63.out).mono ?_
        (case side1 => repeat (first | exact (Kd.C_below HR1.out (by repeat (first | (with_reducible first | exact HB.out | apply below_alloc | apply pw_below_drewN | apply below_drew1 | refine below_set ?_ GE206.out) | exact HB.out))) | (with_reducible refine Kd.C_alloc ?_ _) | (with_reducible refine Kd.C_drewN ?_ _) | (with_reducible refine Kd.C_drew ?_)))
        (case side2 => exact HC1.out)
        (case side3 => repeat (first | exact (Kd.N_reads' HO_11.out).2.2 | (with_reducible refine Kd.C_alloc ?_ _) | (with_reducible refine Kd.C_drewN ?_ _) | (with_reducible refine Kd.C_drew ?_)))
        (case side4 => exact (Kd.N_reads' HO_11.out).2.1)
        rintro e w105 ⟨v250, rfl, ho0, hb⟩
        refine ⟨_, rfl, ?_⟩
        have n0_ := Aside0.mk (Kd.V_below (by (with_reducible repeat (first | apply Kd.V_alloc | apply Kd.V_drewN | apply Kd.V_drew)); exact HO_2.out) hb)
        have n1_ := Aside0.mk (Kd.V_below (by (with_reducible repeat (first | apply Kd.V_alloc | apply Kd.V_drewN | apply Kd.V_drew)); exact HO_3.out) hb)
        have n2_ := Aside0.mk (Kd.N_below (by (with_reducible repeat (first | apply Kd.N_alloc | apply Kd.N_drewN | apply Kd.N_drew)); exact HO_11.out) hb)
        have n3_ := Aside0.mk (Kd.V_below (by (with_reducible repeat (first | apply Kd.V_alloc | apply Kd.V_drewN | apply Kd.V_drew)); exact HO241.out) hb)
        have n4_ := Aside0.mk (Kd.V_below (by (with_reducible repeat (first | apply Kd.V_alloc | apply Kd.V_drewN | apply Kd.V_drew)); exact HO244.out) hb)
        have n5_ := Aside0.mk (Kd.V_below (by (with_reducible repeat (first | apply Kd.V_alloc | apply Kd.V_drewN | apply Kd.V_drew)); exact HO247.out) hb)
        have n6_ := Aside0.mk (Kd.V_lower (Kd.V_mono (ok' := fun k_ => ((P2_ k_ ∨ P3_ k_) ∨ w.heap.size ≤ k_) ∧ some k_ ≠ (.slice Ao36 y215.length co36 : Value).ownBlock ∧ k_ ≠ gb206) ho0 (fun k_ hk_ => ⟨(.inr (Nat.le_trans (below_size (by repeat (first | (with_reducible first | exact HB.out | apply below_alloc | apply pw_below_drewN | apply below_drew1 | refine below_set ?_ GE206.out) | exact HB.out))) hk_)), (Kd.fresh' (Kd.N_lt (by (with_reducible repeat (first | apply Kd.N_alloc | apply Kd.N_drewN | apply Kd.N_drew)); exact HO_11.out)) k_ hk_), (Kd.freshB (g := gb206) (o := .cells #[.int .i64 a0_0, .int .i64 a0_1, .int .i64 a0_2, .int .u64 a0_3, .int .u64 a0_4, .int .u64 a0_5] 24 (0, 0)) (by (with_reducible repeat (first | refine blk_drewN ?_ _ | refine blk_drew ?_ | refine blk_alloc ?_ _)); exact BK206.out) k_ hk_)⟩)) (below_size (by repeat (first | (with_reducible first | exact HB.out | apply below_alloc | apply pw_below_drewN | apply below_drew1 | refine below_set ?_ GE206.out) | exact HB.out))))
        have n7_ := Aside0.mk (blk_below (g := gb206) (o := .cells #[.int .i64 a0_0, .int .i64 a0_1, .int .i64 a0_2, .int .u64 a0_3, .int .u64 a0_4, .int .u64 a0_5] 24 (0, 0)) (by (with_reducible repeat (first | refine blk_drewN ?_ _ | refine blk_drew ?_ | refine blk_alloc ?_ _)); exact BK206.out) hb)
        have n8_ := Aside0.mk (below_step (by repeat (first | (with_reducible first | exact HB.out | apply below_alloc | apply pw_below_drewN | apply below_drew1 | refine below_set ?_ GE206.out) | exact HB.out)) hb)
        clear HO_2
        clear HO_3
        clear HO_11
        clear HO241
        clear HO244
        clear HO247
        clear BK206
        clear HB
        have HO_2 := n0_
        have HO_3 := n1_
        have HO_11 := n2_
        have HO241 := n3_
        have HO244 := n4_
        have HO247 := n5_
        have HO251 := n6_
        have BK206 := n7_
        have HB := n8_
        clear n0_ n1_ n2_ n3_ n4_ n5_ n6_ n7_ n8_
        (try clear hb)
        (try clear hb2)
        (try clear hk)
        (try clear hi)
        (try clear ho0)
        obtain ⟨Ao106, co106, eo106⟩ := Kd.V_slice HO251.out
        (first | subst eo106 | (injection eo106 with f1_ f2_ f3_; have f4_ := f1_.symm; have f5_ := f3_.symm; clear f1_ f2_ f3_; subst f4_; subst f5_))
        refine hK.out _ _ ⟨(blk_cell BK206.out 0).trans rfl, (blk_cell BK206.out 1).trans rfl, (blk_cell BK206.out 2).trans rfl, (blk_cell BK206.out 3).trans rfl, (blk_cell BK206.out 4).trans rfl, (blk_cell BK206.out 5).trans rfl⟩ (fun hHeld => ?_)
        clear hK K
        refine norm_ (a' := ?_) ?_ ?_
        rotate_left
        · show Act.put _ (some 100) _ = _
          simp only [Act.put, sA_, sB_, sC_, i64_w, i32_w]
          rfl
        refine one_ (i := 15) (N := some 101) #[true, true, true, true, true, true, true, true, true, true, true, true, true, true, true, true, false, false, false, false, false, false, false, false, false, false, false, false, false, false, false, false, false, false] rfl rfl (one_of HT_.out (by kernel_rfl)) (by decide) (fun K hK => ?_)
        refine goes_ Try.func7 (by kernel_rfl) rfl #[.slice Ao103 t239.length co103, .slice Ao106 t249.length co106] (by rfl) rfl rfl (by (try simp only [List.map_toArray, List.map_cons, List.map_nil]); first | done | rfl | (simp only [List.length_drop, List.length_take]; rfl)) ?_
        with_reducible refine (spec_SameText.calls _ _ t239 _ _ t249 false _ ?side1 ?side2 ?side3 ?side4 A64.out).mono ?_
        (case side1 => repeat (first | exact (Kd.V_reads' HO241.out).2.2 | (with_reducible refine Kd.C_alloc ?_ _) | (with_reducible refine Kd.C_drewN ?_ _) | (with_reducible refine Kd.C_drew ?_)))
        (case side2 => exact (Kd.V_reads' HO241.out).2.1)
        (case side3 => repeat (first | exact (Kd.V_reads' HO251.out).2.2 | (with_reducible refine Kd.C_alloc ?_ _) | (with_reducible refine Kd.C_drewN ?_ _) | (with_reducible refine Kd.C_drew ?_)))
        (case side4 => exact (Kd.V_reads' HO251.out).2.1)
        rintro e w' ⟨rfl, ⟨nd, rfl⟩⟩
        refine ⟨_, rfl, ?_⟩
        refine hK.out _ _ ⟨(blk_cell BK206.out 0).trans rfl, (blk_cell BK206.out 1).trans rfl, (blk_cell BK206.out 2).trans rfl, (blk_cell BK206.out 3).trans rfl, (blk_cell BK206.out 4).trans rfl, (blk_cell BK206.out 5).trans rfl⟩ (fun hHeld => ?_)
        clear hK K
        refine norm_ (a' := ?_) ?_ ?_
        rotate_left
        · show Act.put _ (some 101) _ = _
          simp only [Act.put, sA_, sB_, sC_, i64_w, i32_w]
          rfl
        refine pure_ (i := 16) (N := some 102) (v := ?_) (a' := ?_) #[true, true, true, true, true, true, true, true, true, true, true, true, true, true, true, true, true, false, false, false, false, false, false, false, false, false, false, false, false, false, false, false, false, false] rfl rfl (any_of HT_.out (by kernel_rfl)) (fun _ _ _ h => h) (Or.inl ⟨by rfl, ?_⟩) ?_ ?_
        rotate_left
        · intro w'
          go_simp
          with_reducible rfl
        rotate_left
        · simp only [Act.put, sA_, sB_, sC_, i64_w, i32_w]
          rfl
        refine pure_ (i := 17) (N := some 103) (v := ?_) (a' := ?_) #[true, true, true, true, true, true, true, true, true, true, true, true, true, true, true, true, true, true, false, false, false, false, false, false, false, false, false, false, false, false, false, false, false, false] rfl rfl (any_of HT_.out (by kernel_rfl)) (fun _ _ _ h => h) (Or.inl ⟨by rfl, ?_⟩) ?_ ?_
        rotate_left
        · intro w'
          go_simp
          with_reducible rfl
        rotate_left
        · simp only [Act.put, sA_, sB_, sC_, i64_w, i32_w]
          rfl
        refine pure_ (i := 18) (N := some 104) (v := undef) (a' := ?_) #[true, true, true, true, true, true, true, true, true, true, true, true, true, true, true, true, true, true, true, false, false, false, false, false, false, false, false, false, false, false, false, false, false, false] rfl rfl (any_of HT_.out (by kernel_rfl)) (fun _ _ _ h => h) (Or.inr ⟨by rfl, rfl⟩) ?_ ?_
        rotate_left
        · simp only [Act.put, sA_, sB_, sC_, i64_w, i32_w]
          rfl
        refine pure_ (i := 19) (N := some 105) (v := undef) (a' := ?_) #[true, true, true, true, true, true, true, true, true, true, true, true, true, true, true, true, true, true, true, true, false, false, false, false, false, false, false, false, false, false, false, false, false, false] rfl rfl (any_of HT_.out (by kernel_rfl)) (fun _ _ _ h => h) (Or.inr ⟨by rfl, rfl⟩) ?_ ?_
        rotate_left
        · simp only [Act.put, sA_, sB_, sC_, i64_w, i32_w]
          rfl
        refine pure_ (i := 20) (N := some 106) (v := undef) (a' := ?_) #[true, true, true, true, true, true, true, true, true, true, true, true, true, true, true, true, true, true, true, true, true, false, false, false, false, false, false, false, false, false, false, false, false, false] rfl rfl (any_of HT_.out (by kernel_rfl)) (fun _ _ _ h => h) (Or.inr ⟨by rfl, rfl⟩) ?_ ?_
        rotate_left
        · simp only [Act.put, sA_, sB_, sC_, i64_w, i32_w]
          rfl
        refine pure_ (i := 21) (N := some 107) (v := undef) (a' := ?_) #[true, true, true, true, true, true, true, true, true, true, true, true, true, true, true, true, true, true, true, true, true, true, false, false, false, false, false, false, false, false, false, false, false, false] rfl rfl (any_of HT_.out (by kernel_rfl)) (fun _ _ _ h => h) (Or.inr ⟨by rfl, rfl⟩) ?_ ?_
        rotate_left
        · simp only [Act.put, sA_, sB_, sC_, i64_w, i32_w]
          rfl
        refine pure_ (i := 22) (N := some 108) (v := undef) (a' := ?_) #[true, true, true, true, true, true, true, true, true, true, true, true, true, true, true, true, true, true, true, true, true, true, true, false, false, false, false, false, false, false, false, false, false, false] rfl rfl (any_of HT_.out (by kernel_rfl)) (fun _ _ _ h => h) (Or.inr ⟨by rfl, rfl⟩) ?_ ?_
        rotate_left
        · simp only [Act.put, sA_, sB_, sC_, i64_w, i32_w]
          rfl
        refine pure_ (i := 23) (N := some 109) (v := undef) (a' := ?_) #[true, true, true, true, true, true, true, true, true, true, true, true, true, true, true, true, true, true, true, true, true, true, true, true, false, false, false, false, false, false, false, false, false, false] rfl rfl (any_of HT_.out (by kernel_rfl)) (fun _ _ _ h => h) (Or.inr ⟨by rfl, rfl⟩) ?_ ?_
        rotate_left
        · simp only [Act.put, sA_, sB_, sC_, i64_w, i32_w]
          rfl
        refine pure_ (i := 24) (N := some 110) (v := ?_) (a' := ?_) #[true, true, true, true, true, true, true, true, true, true, true, true, true, true, true, true, true, true, true, true, true, true, true, true, true, false, false, false, false, false, false, false, false, false] rfl rfl (any_of HT_.out (by kernel_rfl)) (fun _ _ _ h => h) (Or.inl ⟨by rfl, ?_⟩) ?_ ?_
        rotate_left
        · intro w'
          go_simp
          with_reducible rfl
        rotate_left
        · simp only [Act.put, sA_, sB_, sC_, i64_w, i32_w]
          rfl
        refine pure_ (i := 25) (N := some 111) (v := ?_) (a' := ?_) #[true, true, true, true, true, true, true, true, true, true, true, true, true, true, true, true, true, true, true, true, true, true, true, true, true, true, false, false, false, false, false, false, false, false] rfl rfl (any_of HT_.out (by kernel_rfl)) (fun _ _ _ h => h) (Or.inl ⟨by rfl, ?_⟩) ?_ ?_
        rotate_left
        · intro w'
          go_simp
          with_reducible rfl
        rotate_left
        · simp only [Act.put, sA_, sB_, sC_, i64_w, i32_w]
          rfl
        refine pure_ (i := 26) (N := some 112) (v := undef) (a' := ?_) #[true, true, true, true, true, true, true, true, true, true, true, true, true, true, true, true, true, true, true, true, true, true, true, true, true, true, true, false, false, false, false, false, false, false] rfl rfl (any_of HT_.out (by kernel_rfl)) (fun _ _ _ h => h) (Or.inr ⟨by rfl, rfl⟩) ?_ ?_
        rotate_left
        · simp only [Act.put, sA_, sB_, sC_, i64_w, i32_w]
          rfl
        refine pure_ (i := 27) (N := some 113) (v := undef) (a' := ?_) #[true, true, true, true, true, true, true, true, true, true, true, true, true, true, true, true, true, true, true, true, true, true, true, true, true, true, true, true, false, false, false, false, false, false] rfl rfl (any_of HT_.out (by kernel_rfl)) (fun _ _ _ h => h) (Or.inr ⟨by rfl, rfl⟩) ?_ ?_
        rotate_left
        · simp only [Act.put, sA_, sB_, sC_, i64_w, i32_w]
          rfl
        refine pure_ (i := 28) (N := some 114) (v := undef) (a' := ?_) #[true, true, true, true, true, true, true, true, true, true, true, true, true, true, true, true, true, true, true, true, true, true, true, true, true, true, true, true, true, false, false, false, false, false] rfl rfl (any_of HT_.out (by kernel_rfl)) (fun _ _ _ h => h) (Or.inr ⟨by rfl, rfl⟩) ?_ ?_
        rotate_left
        · simp only [Act.put, sA_, sB_, sC_, i64_w, i32_w]
          rfl
        refine pure_ (i := 29) (N := some 115) (v := undef) (a' := ?_) #[true, true, true, true, true, true, true, true, true, true, true, true, true, true, true, true, true, true, true, true, true, true, true, true, true, true, true, true, true, true, false, false, false, false] rfl rfl (any_of HT_.out (by kernel_rfl)) (fun _ _ _ h => h) (Or.inr ⟨by rfl, rfl⟩) ?_ ?_
        rotate_left
        · simp only [Act.put, sA_, sB_, sC_, i64_w, i32_w]
          rfl
        refine pure_ (i := 30) (N := some 116) (v := undef) (a' := ?_) #[true, true, true, true, true, true, true, true, true, true, true, true, true, true, true, true, true, true, true, true, true, true, true, true, true, true, true, true, true, true, true, false, false, false] rfl rfl (any_of HT_.out (by kernel_rfl)) (fun _ _ _ h => h) (Or.inr ⟨by rfl, rfl⟩) ?_ ?_
        rotate_left
        · simp only [Act.put, sA_, sB_, sC_, i64_w, i32_w]
          rfl
        refine pure_ (i := 31) (N := some 117) (v := undef) (a' := ?_) #[true, true, true, true, true, true, true, true, true, true, true, true, true, true, true, true, true, true, true, true, true, true, true, true, true, true, true, true, true, true, true, true, false, false] rfl rfl (any_of HT_.out (by kernel_rfl)) (fun _ _ _ h => h) (Or.inr ⟨by rfl, rfl⟩) ?_ ?_
        rotate_left
        · simp only [Act.put, sA_, sB_, sC_, i64_w, i32_w]
          rfl
        refine pure_ (i := 32) (N := some 118) (v := ?_) (a' := ?_) #[true, true, true, true, true, true, true, true, true, true, true, true, true, true, true, true, true, true, true, true, true, true, true, true, true, true, true, true, true, true, true, true, true, false] rfl rfl (any_of HT_.out (by kernel_rfl)) (fun _ _ _ h => h) (Or.inl ⟨by rfl, ?_⟩) ?_ ?_
        rotate_left
        · intro w'
          go_simp
          with_reducible rfl
        rotate_left
        · simp only [Act.put, sA_, sB_, sC_, i64_w, i32_w]
          rfl
        refine pure_ (i := 33) (N := some 10) (v := ?_) (a' := ?_) #[true, true, true, true, true, true, true, true, true, true, true, true, true, true, true, true, true, true, true, true, true, true, true, true, true, true, true, true, true, true, true, true, true, true] rfl rfl (any_of HT_.out (by kernel_rfl)) (fun _ _ _ h => h) (Or.inl ⟨by rfl, ?_⟩) ?_ ?_
        rotate_left
        · intro w'
          go_simp
          with_reducible rfl
        rotate_left
        · simp only [Act.put, sA_, sB_, sC_, i64_w, i32_w]
          rfl
        refine done_ (done_of HT_.out (by kernel_rfl)) ?_
        try go_wp2
        go_ret
        exact ⟨by first | rfl | (simp [errW_none, errW_some] <;> rfl) | (simp only [← hji31, ← hji46]; first | rfl | (simp [errW_none, errW_some] <;> rfl)) | (simp [*, errW_none, errW_some] <;> rfl), by repeat (first | (with_reducible first | exact HB.out | apply below_alloc | apply pw_below_drewN | apply below_drew1 | refine below_set ?_ GE206.out) | exact HB.out)⟩
      replace c62 := Bool.eq_false_iff.mpr c62
      subst c62
      have H1 : (some false) = some r := by rw [if_neg (show ¬ (false = true) by decide)] at H; exact H
      clear H
      have H := H1
      clear H1
      obtain rfl := Option.some.inj H
      have hcz107_0 : wc.cell? ⟨gb206, 0, none⟩ = some (.int .i64 a0_0) := (blk_cell BK206.out 0).trans rfl
      have hcz107_1 : wc.cell? ⟨gb206, 1, none⟩ = some (.int .i64 a0_1) := (blk_cell BK206.out 1).trans rfl
      have hcz107_2 : wc.cell? ⟨gb206, 2, none⟩ = some (.int .i64 a0_2) := (blk_cell BK206.out 2).trans rfl
      have hcz107_3 : wc.cell? ⟨gb206, 3, none⟩ = some (.int .u64 a0_3) := (blk_cell BK206.out 3).trans rfl
      have hcz107_4 : wc.cell? ⟨gb206, 4, none⟩ = some (.int .u64 a0_4) := (blk_cell BK206.out 4).trans rfl
      have hcz107_5 : wc.cell? ⟨gb206, 5, none⟩ = some (.int .u64 a0_5) := (blk_cell BK206.out 5).trans rfl
      have hfz107_0 := blk_frozen BK206.out 0
      have hfz107_1 := blk_frozen BK206.out 1
      have hfz107_2 := blk_frozen BK206.out 2
      have hfz107_3 := blk_frozen BK206.out 3
      have hfz107_4 := blk_frozen BK206.out 4
      have hfz107_5 := blk_frozen BK206.out 5
      try go_wp2_with (first | ((with_reducible refine gate_callee (f := 10) rfl ?_); refine goesL_ (some 85) rfl rfl Try.func10 (by kernel_rfl) rfl #[.agg #[.int .i64 a0_0, .int .i64 a0_1, .int .i64 a0_2, .int .u64 a0_3, .int .u64 a0_4, .int .u64 a0_5], .slice A1 l1.length c1, .slice Ao36 y215.length co36] rfl (by (try simp only [List.map_toArray, List.map_cons, List.map_nil]); first | done | rfl | (simp only [List.length_drop, List.length_take]; rfl)) ?_; (with_reducible refine (impl_ChainBorder.calls kj48 a0_0 a0_1 a0_2 a0_3 a0_4 a0_5 _ _ l1 _ _ y215 t239 _ ?side1 ?side2 ?side3 ?side4 A58.out).mono ?_); (case side1 => repeat (first | exact (Kd.C_below HR1.out HB.out) | (with_reducible refine Kd.C_alloc ?_ _) | (with_reducible refine Kd.C_drewN ?_ _) | (with_reducible refine Kd.C_drew ?_))); (case side2 => exact HC1.out); (case side3 => repeat (first | exact (Kd.N_reads' HO_11.out).2.2 | (with_reducible refine Kd.C_alloc ?_ _) | (with_reducible refine Kd.C_drewN ?_ _) | (with_reducible refine Kd.C_drew ?_))); (case side4 => exact (Kd.N_reads' HO_11.out).2.1); rintro e w108 ⟨v240, rfl, ho0, hb⟩; refine ⟨_, rfl, ?_⟩; have n0_ := Aside0.mk (Kd.V_below (by (with_reducible repeat (first | apply Kd.V_alloc | apply Kd.V_drewN | apply Kd.V_drew)); exact HO_2.out) hb); have n1_ := Aside0.mk (Kd.V_below (by (with_reducible repeat (first | apply Kd.V_alloc | apply Kd.V_drewN | apply Kd.V_drew)); exact HO_3.out) hb); have n2_ := Aside0.mk (Kd.N_below (by (with_reducible repeat (first | apply Kd.N_alloc | apply Kd.N_drewN | apply Kd.N_drew)); exact HO_11.out) hb); have n3_ := Aside0.mk (Kd.V_lower (Kd.V_mono (ok' := fun k_ => ((P2_ k_ ∨ P3_ k_) ∨ w.heap.size ≤ k_) ∧ some k_ ≠ (.slice Ao36 y215.length co36 : Value).ownBlock ∧ k_ ≠ gb206) ho0 (fun k_ hk_ => ⟨(.inr (Nat.le_trans (below_size (by repeat (first | (with_reducible first | exact HB.out | apply below_alloc | apply pw_below_drewN | apply below_drew1 | refine below_set ?_ GE206.out) | exact HB.out))) hk_)), (Kd.fresh' (Kd.N_lt (by (with_reducible repeat (first | apply Kd.N_alloc | apply Kd.N_drewN | apply Kd.N_drew)); exact HO_11.out)) k_ hk_), (Kd.freshB (g := gb206) (o := .cells #[.int .i64 a0_0, .int .i64 a0_1, .int .i64 a0_2, .int .u64 a0_3, .int .u64 a0_4, .int .u64 a0_5] 24 (0, 0)) (by (with_reducible repeat (first | refine blk_drewN ?_ _ | refine blk_drew ?_ | refine blk_alloc ?_ _)); exact BK206.out) k_ hk_)⟩)) (below_size (by repeat (first | (with_reducible first | exact HB.out | apply below_alloc | apply pw_below_drewN | apply below_drew1 | refine below_set ?_ GE206.out) | exact HB.out)))); have n4_ := Aside0.mk (blk_below (g := gb206) (o := .cells #[.int .i64 a0_0, .int .i64 a0_1, .int .i64 a0_2, .int .u64 a0_3, .int .u64 a0_4, .int .u64 a0_5] 24 (0, 0)) (by (with_reducible repeat (first | refine blk_drewN ?_ _ | refine blk_drew ?_ | refine blk_alloc ?_ _)); exact BK206.out) hb); have n5_ := Aside0.mk (below_step (by repeat (first | (with_reducible first | exact HB.out | apply below_alloc | apply pw_below_drewN | apply below_drew1 | refine below_set ?_ GE206.out) | exact HB.out)) hb); clear HO_2; clear HO_3; clear HO_11; clear BK206; clear HB; have HO_2 := n0_; have HO_3 := n1_; have HO_11 := n2_; have HO241 := n3_; have BK206 := n4_; have HB := n5_; clear n0_ n1_ n2_ n3_ n4_ n5_; (try clear hb); (try clear hb2); (try clear hk); (try clear hi); (try clear ho0)))
      have n0_ := Aside0.mk (Kd.V_drew HO_2.out)
      have n1_ := Aside0.mk (Kd.V_drew HO_3.out)
      have n2_ := Aside0.mk (Kd.N_drew HO_11.out)
      have n3_ := Aside0.mk (Kd.V_drew HO241.out)
      have n4_ := Aside0.mk (blk_drew BK206.out)
      have n5_ := Aside0.mk (below_drew1 HB.out)
      clear HO_2
      clear HO_3
      clear HO_11
      clear HO241
      clear BK206
      clear HB
      have HO_2 := n0_
      have HO_3 := n1_
      have HO_11 := n2_
      have HO241 := n3_
      have BK206 := n4_
      have HB := n5_
      clear n0_ n1_ n2_ n3_ n4_ n5_
      refine start_ (n := 34) (S := fun w' => w'.cell? ⟨gb206, 0, none⟩ = some (.int .i64 a0_0) ∧ w'.cell? ⟨gb206, 1, none⟩ = some (.int .i64 a0_1) ∧ w'.cell? ⟨gb206, 2, none⟩ = some (.int .i64 a0_2) ∧ w'.cell? ⟨gb206, 3, none⟩ = some (.int .u64 a0_3) ∧ w'.cell? ⟨gb206, 4, none⟩ = some (.int .u64 a0_4) ∧ w'.cell? ⟨gb206, 5, none⟩ = some (.int .u64 a0_5)) (ds := []) #[false, false, false, false, false, false, false, false, false, false, false, false, false, false, false, false, false, false, false, false, false, false, false, false, false, false, false, false, false, false, false, false, false, false] (by kernel_rfl) rfl rfl ⟨(blk_cell BK206.out 0).trans rfl, (blk_cell BK206.out 1).trans rfl, (blk_cell BK206.out 2).trans rfl, (blk_cell BK206.out 3).trans rfl, (blk_cell BK206.out 4).trans rfl, (blk_cell BK206.out 5).trans rfl⟩ (fun hHeld => ?_); refine with_tabW laws_FnChainsInParts.tab11 laws_FnChainsInParts.bits11 (fun HT_ HW_ => ?_)
      generalize w108.drew = w109 at HO_2 HO_3 HO_11 HO241 BK206 HB hHeld ⊢
      refine pure_ (i := 0) (N := some 86) (v := ?_) (a' := ?_) #[true, false, false, false, false, false, false, false, false, false, false, false, false, false, false, false, false, false, false, false, false, false, false, false, false, false, false, false, false, false, false, false, false, false] rfl rfl (any_of HT_.out (by kernel_rfl)) (fun _ _ _ h => h) (Or.inl ⟨by rfl, ?_⟩) ?_ ?_
      rotate_left
      · intro w'
        go_simp
        with_reducible rfl
      rotate_left
      · simp only [Act.put, sA_, sB_, sC_, i64_w, i32_w]
        rfl
      refine pure_ (i := 3) (N := some 89) (v := ?_) (a' := ?_) #[true, false, false, true, false, false, false, false, false, false, false, false, false, false, false, false, false, false, false, false, false, false, false, false, false, false, false, false, false, false, false, false, false, false] rfl rfl (any_of HT_.out (by kernel_rfl)) (fun _ _ _ h => h) (Or.inl ⟨by rfl, ?_⟩) ?_ ?_
      rotate_left
      · intro w'
        go_simp
        with_reducible rfl
      rotate_left
      · simp only [Act.put, sA_, sB_, sC_, i64_w, i32_w]
        rfl
      refine pure_ (i := 4) (N := some 90) (v := ?_) (a' := ?_) #[true, false, false, true, true, false, false, false, false, false, false, false, false, false, false, false, false, false, false, false, false, false, false, false, false, false, false, false, false, false, false, false, false, false] rfl rfl (any_of HT_.out (by kernel_rfl)) (fun _ _ _ h => h) (Or.inl ⟨by rfl, ?_⟩) ?_ ?_
      rotate_left
      · intro w'
        go_simp
        with_reducible rfl
      rotate_left
      · simp only [Act.put, sA_, sB_, sC_, i64_w, i32_w]
        rfl
      refine pure_ (i := 6) (N := some 92) (v := ?_) (a' := ?_) #[true, false, false, true, true, false, true, false, false, false, false, false, false, false, false, false, false, false, false, false, false, false, false, false, false, false, false, false, false, false, false, false, false, false] rfl rfl (any_of HT_.out (by kernel_rfl)) (fun _ _ _ h => h) (Or.inl ⟨by rfl, ?_⟩) ?_ ?_
      rotate_left
      · intro w'
        go_simp
        with_reducible rfl
      rotate_left
      · simp only [Act.put, sA_, sB_, sC_, i64_w, i32_w]
        rfl
      refine take_ (i := 1) (N := some 87) (v := ?_) (a' := ?_) #[true, true, false, true, true, false, true, false, false, false, false, false, false, false, false, false, false, false, false, false, false, false, false, false, false, false, false, false, false, false, false, false, false, false] rfl rfl (take_ofW HT_.out HW_.out (by kernel_rfl)) (fun _ _ _ h => h) (Or.inl ⟨by rfl, ?_⟩) hHeld ?_ ?_
      rotate_left
      · rintro w' ⟨s0, s1, s2, s3, s4, s5⟩
        go_simp
        with_reducible rfl
      rotate_left
      · simp only [Act.put, sA_, sB_, sC_, i64_w, i32_w]
        rfl
      refine take_ (i := 2) (N := some 88) (v := ?_) (a' := ?_) #[true, true, true, true, true, false, true, false, false, false, false, false, false, false, false, false, false, false, false, false, false, false, false, false, false, false, false, false, false, false, false, false, false, false] rfl rfl (take_ofW HT_.out HW_.out (by kernel_rfl)) (fun _ _ _ h => h) (Or.inl ⟨by rfl, ?_⟩) hHeld ?_ ?_
      rotate_left
      · rintro w' ⟨s0, s1, s2, s3, s4, s5⟩
        go_simp
        with_reducible rfl
      rotate_left
      · simp only [Act.put, sA_, sB_, sC_, i64_w, i32_w]
        rfl
      refine one_ (i := 5) (N := some 91) #[true, true, true, true, true, true, true, false, false, false, false, false, false, false, false, false, false, false, false, false, false, false, false, false, false, false, false, false, false, false, false, false, false, false] rfl rfl (one_of HT_.out (by kernel_rfl)) (by decide) (fun K hK => ?_)
      refine goes_ Try.func10 (by kernel_rfl) rfl #[.agg #[.int .i64 a0_0, .int .i64 a0_1, .int .i64 a0_2, .int .u64 a0_3, .int .u64 a0_4, .int .u64 a0_5], .slice A1 l1.length c1, .slice A2 l2.length c2] (by rfl) rfl rfl (by (try simp only [List.map_toArray, List.map_cons, List.map_nil]); first | done | rfl | (simp only [List.length_drop, List.length_take]; rfl)) ?_
      with_reducible refine (impl_ChainBorder.calls kj48 a0_0 a0_1 a0_2 a0_3 a0_4 a0_5 _ _ l1 _ _ l2 t242 _ ?side1 ?side2 ?side3 ?side4 A59.out).mono ?_
      (case side1 => repeat (first | exact (Kd.C_below HR1.out HB.out) | (with_reducible refine Kd.C_alloc ?_ _) | (with_reducible refine Kd.C_drewN ?_ _) | (with_reducible refine Kd.C_drew ?_)))
      (case side2 => exact HC1.out)
      (case side3 => repeat (first | exact (Kd.V_reads' HO_2.out).2.2 | (with_reducible refine Kd.C_alloc ?_ _) | (with_reducible refine Kd.C_drewN ?_ _) | (with_reducible refine Kd.C_drew ?_)))
      (case side4 => exact (Kd.V_reads' HO_2.out).2.1)
      rintro e w110 ⟨v243, rfl, ho0, hb⟩
      refine ⟨_, rfl, ?_⟩
      have n0_ := Aside0.mk (Kd.V_below (by (with_reducible repeat (first | apply Kd.V_alloc | apply Kd.V_drewN | apply Kd.V_drew)); exact HO_2.out) hb)
      have n1_ := Aside0.mk (Kd.V_below (by (with_reducible repeat (first | apply Kd.V_alloc | apply Kd.V_drewN | apply Kd.V_drew)); exact HO_3.out) hb)
      have n2_ := Aside0.mk (Kd.N_below (by (with_reducible repeat (first | apply Kd.N_alloc | apply Kd.N_drewN | apply Kd.N_drew)); exact HO_11.out) hb)
      have n3_ := Aside0.mk (Kd.V_below (by (with_reducible repeat (first | apply Kd.V_alloc | apply Kd.V_drewN | apply Kd.V_drew)); exact HO241.out) hb)
      have n4_ := Aside0.mk (Kd.V_lower (Kd.V_mono (ok' := fun k_ => ((P2_ k_ ∨ P3_ k_) ∨ w.heap.size ≤ k_) ∧ some k_ ≠ (.slice Ao36 y215.length co36 : Value).ownBlock ∧ k_ ≠ gb206) ho0 (fun k_ hk_ => ⟨(.inr (Nat.le_trans (below_size (by repeat (first | (with_reducible first | exact HB.out | apply below_alloc | apply pw_below_drewN | apply below_drew1 | refine below_set ?_ GE206.out) | exact HB.out))) hk_)), (Kd.fresh' (Kd.N_lt (by (with_reducible repeat (first | apply Kd.N_alloc | apply Kd.N_drewN | apply Kd.N_drew)); exact HO_11.out)) k_ hk_), (Kd.freshB (g := gb206) (o := .cells #[.int .i64 a0_0, .int .i64 a0_1, .int .i64 a0_2, .int .u64 a0_3, .int .u64 a0_4, .int .u64 a0_5] 24 (0, 0)) (by (with_reducible repeat (first | refine blk_drewN ?_ _ | refine blk_drew ?_ | refine blk_alloc ?_ _)); exact BK206.out) k_ hk_)⟩)) (below_size (by repeat (first | (with_reducible first | exact HB.out | apply below_alloc | apply pw_below_drewN | apply below_drew1 | refine below_set ?_ GE206.out) | exact HB.out))))
      have n5_ := Aside0.mk (blk_below (g := gb206) (o := .cells #[.int .i64 a0_0, .int .i64 a0_1, .int .i64 a0_2, .int .u64 a0_3, .int .u64 a0_4, .int .u64 a0_5] 24 (0, 0)) (by (with_reducible repeat (first | refine blk_drewN ?_ _ | refine blk_drew ?_ | refine blk_alloc ?_ _)); exact BK206.out) hb)
      have n6_ := Aside0.mk (below_step (by repeat (first | (with_reducible first | exact HB.out | apply below_alloc | apply pw_below_drewN | apply below_drew1 | refine below_set ?_ GE206.out) | exact HB.out)) hb)
      clear HO_2
      clear HO_3
      clear HO_11
      clear HO241
      clear BK206
      clear HB
      have HO_2 := n0_
      have HO_3 := n1_
      have HO_11 := n2_
      have HO241 := n3_
      have HO244 := n4_
      have BK206 := n5_
      have HB := n6_
      clear n0_ n1_ n2_ n3_ n4_ n5_ n6_
      (try clear hb)
      (try clear hb2)
      (try clear hk)
      (try clear hi)
      (try clear ho0)
      obtain ⟨Ao111, co111, eo111⟩ := Kd.V_slice HO244.out
      (first | subst eo111 | (injection eo111 with f1_ f2_ f3_; have f4_ := f1_.symm; have f5_ := f3_.symm; clear f1_ f2_ f3_; subst f4_; subst f5_))
      refine hK.out _ _ ⟨(blk_cell BK206.out 0).trans rfl, (blk_cell BK206.out 1).trans rfl, (blk_cell BK206.out 2).trans rfl, (blk_cell BK206.out 3).trans rfl, (blk_cell BK206.out 4).trans rfl, (blk_cell BK206.out 5).trans rfl⟩ (fun hHeld => ?_)
      clear hK K
      refine norm_ (a' := ?_) ?_ ?_
      rotate_left
      · show Act.put _ (some 91) _ = _
        simp only [Act.put, sA_, sB_, sC_, i64_w, i32_w]
        rfl
      refine one_ (i := 7) (N := some 93) #[true, true, true, true, true, true, true, true, false, false, false, false, false, false, false, false, false, false, false, false, false, false, false, false, false, false, false, false, false, false, false, false, false, false] rfl rfl (one_of HT_.out (by kernel_rfl)) (by decide) (fun K hK => ?_)
      refine goes_ Try.func10 (by kernel_rfl) rfl #[.agg #[.int .i64 a0_0, .int .i64 a0_1, .int .i64 a0_2, .int .u64 a0_3, .int .u64 a0_4, .int .u64 a0_5], .slice Ao111 t242.length co111, .slice A3 l3.length c3] (by rfl) rfl rfl (by (try simp only [List.map_toArray, List.map_cons, List.map_nil]); first | done | rfl | (simp only [List.length_drop, List.length_take]; rfl)) ?_
      with_reducible refine (impl_ChainBorder.calls kj48 a0_0 a0_1 a0_2 a0_3 a0_4 a0_5 _ _ t242 _ _ l3 t245 _ ?side1 ?side2 ?side3 ?side4 A60.out).mono ?_
      (case side1 => repeat (first | exact (Kd.V_reads' HO244.out).2.2 | (with_reducible refine Kd.C_alloc ?_ _) | (with_reducible refine Kd.C_drewN ?_ _) | (with_reducible refine Kd.C_drew ?_)))
      (case side2 => exact (Kd.V_reads' HO244.out).2.1)
      (case side3 => repeat (first | exact (Kd.V_reads' HO_3.out).2.2 | (with_reducible refine Kd.C_alloc ?_ _) | (with_reducible refine Kd.C_drewN ?_ _) | (with_reducible refine Kd.C_drew ?_)))
      (case side4 => exact (Kd.V_reads' HO_3.out).2.1)
      rintro e w112 ⟨v246, rfl, ho0, hb⟩
      refine ⟨_, rfl, ?_⟩
      have n0_ := Aside0.mk (Kd.V_below (by (with_reducible repeat (first | apply Kd.V_alloc | apply Kd.V_drewN | apply Kd.V_drew)); exact HO_2.out) hb)
      have n1_ := Aside0.mk (Kd.V_below (by (with_reducible repeat (first | apply Kd.V_alloc | apply Kd.V_drewN | apply Kd.V_drew)); exact HO_3.out) hb)
      have n2_ := Aside0.mk (Kd.N_below (by (with_reducible repeat (first | apply Kd.N_alloc | apply Kd.N_drewN | apply Kd.N_drew)); exact HO_11.out) hb)
      have n3_ := Aside0.mk (Kd.V_below (by (with_reducible repeat (first | apply Kd.V_alloc | apply Kd.V_drewN | apply Kd.V_drew)); exact HO241.out) hb)
      have n4_ := Aside0.mk (Kd.V_below (by (with_reducible repeat (first | apply Kd.V_alloc | apply Kd.V_drewN | apply Kd.V_drew)); exact HO244.out) hb)
      have n5_ := Aside0.mk (Kd.V_lower (Kd.V_mono (ok' := fun k_ => ((P2_ k_ ∨ P3_ k_) ∨ w.heap.size ≤ k_) ∧ some k_ ≠ (.slice Ao36 y215.length co36 : Value).ownBlock ∧ k_ ≠ gb206) ho0 (fun k_ hk_ => ⟨(.inr (Nat.le_trans (below_size (by repeat (first | (with_reducible first | exact HB.out | apply below_alloc | apply pw_below_drewN | apply below_drew1 | refine below_set ?_ GE206.out) | exact HB.out))) hk_)), (Kd.fresh' (Kd.N_lt (by (with_reducible repeat (first | apply Kd.N_alloc | apply Kd.N_drewN | apply Kd.N_drew)); exact HO_11.out)) k_ hk_), (Kd.freshB (g := gb206) (o := .cells #[.int .i64 a0_0, .int .i64 a0_1, .int .i64 a0_2, .int .u64 a0_3, .int .u64 a0_4, .int .u64 a0_5] 24 (0, 0)) (by (with_reducible repeat (first | refine blk_drewN ?_ _ | refine blk_drew ?_ | refine blk_alloc ?_ _)); exact BK206.out) k_ hk_)⟩)) (below_size (by repeat (first | (with_reducible first | exact HB.out | apply below_alloc | apply pw_below_drewN | apply below_drew1 | refine below_set ?_ GE206.out) | exact HB.out))))
      have n6_ := Aside0.mk (blk_below (g := gb206) (o := .cells #[.int .i64 a0_0, .int .i64 a0_1, .int .i64 a0_2, .int .u64 a0_3, .int .u64 a0_4, .int .u64 a0_5] 24 (0, 0)) (by (with_reducible repeat (first | refine blk_drewN ?_ _ | refine blk_drew ?_ | refine blk_alloc ?_ _)); exact BK206.out) hb)
      have n7_ := Aside0.mk (below_step (by repeat (first | (with_reducible first | exact HB.out | apply below_alloc | apply pw_below_drewN | apply below_drew1 | refine below_set ?_ GE206.out) | exact HB.out)) hb)
      clear HO_2
      clear HO_3
      clear HO_11
      clear HO241
      clear HO244
      clear BK206
      clear HB
      have HO_2 := n0_
      have HO_3 := n1_
      have HO_11 := n2_
      have HO241 := n3_
      have HO244 := n4_
      have HO247 := n5_
      have BK206 := n6_
      have HB := n7_
      clear n0_ n1_ n2_ n3_ n4_ n5_ n6_ n7_
      (try clear hb)
      (try clear hb2)
      (try clear hk)
      (try clear hi)
      (try clear ho0)
      obtain ⟨Ao113, co113, eo113⟩ := Kd.V_slice HO241.out
      (first | subst eo113 | (injection eo113 with f1_ f2_ f3_; have f4_ := f1_.symm; have f5_ := f3_.symm; clear f1_ f2_ f3_; subst f4_; subst f5_))
      obtain ⟨Ao114, co114, eo114⟩ := Kd.V_slice HO247.out
      (first | subst eo114 | (injection eo114 with f1_ f2_ f3_; have f4_ := f1_.symm; have f5_ := f3_.symm; clear f1_ f2_ f3_; subst f4_; subst f5_))
      refine hK.out _ _ ⟨(blk_cell BK206.out 0).trans rfl, (blk_cell BK206.out 1).trans rfl, (blk_cell BK206.out 2).trans rfl, (blk_cell BK206.out 3).trans rfl, (blk_cell BK206.out 4).trans rfl, (blk_cell BK206.out 5).trans rfl⟩ (fun hHeld => ?_)
      clear hK K
      refine norm_ (a' := ?_) ?_ ?_
      rotate_left
      · show Act.put _ (some 93) _ = _
        simp only [Act.put, sA_, sB_, sC_, i64_w, i32_w]
        rfl
      refine one_ (i := 8) (N := some 94) #[true, true, true, true, true, true, true, true, true, false, false, false, false, false, false, false, false, false, false, false, false, false, false, false, false, false, false, false, false, false, false, false, false, false] rfl rfl (one_of HT_.out (by kernel_rfl)) (by decide) (fun K hK => ?_)
      refine goes_ Try.func7 (by kernel_rfl) rfl #[.slice Ao113 t239.length co113, .slice Ao114 t245.length co114] (by rfl) rfl rfl (by (try simp only [List.map_toArray, List.map_cons, List.map_nil]); first | done | rfl | (simp only [List.length_drop, List.length_take]; rfl)) ?_
      with_reducible refine (spec_SameText.calls _ _ t239 _ _ t245 false _ ?side1 ?side2 ?side3 ?side4 A61.out).mono ?_
      (case side1 => repeat (first | exact (Kd.V_reads' HO241.out).2.2 | (with_reducible refine Kd.C_alloc ?_ _) | (with_reducible refine Kd.C_drewN ?_ _) | (with_reducible refine Kd.C_drew ?_)))
      (case side2 => exact (Kd.V_reads' HO241.out).2.1)
      (case side3 => repeat (first | exact (Kd.V_reads' HO247.out).2.2 | (with_reducible refine Kd.C_alloc ?_ _) | (with_reducible refine Kd.C_drewN ?_ _) | (with_reducible refine Kd.C_drew ?_)))
      (case side4 => exact (Kd.V_reads' HO247.out).2.1)
      rintro e w' ⟨rfl, ⟨nd, rfl⟩⟩
      refine ⟨_, rfl, ?_⟩
      refine hK.out _ _ ⟨(blk_cell BK206.out 0).trans rfl, (blk_cell BK206.out 1).trans rfl, (blk_cell BK206.out 2).trans rfl, (blk_cell BK206.out 3).trans rfl, (blk_cell BK206.out 4).trans rfl, (blk_cell BK206.out 5).trans rfl⟩ (fun hHeld => ?_)
      clear hK K
      refine norm_ (a' := ?_) ?_ ?_
      rotate_left
      · show Act.put _ (some 94) _ = _
        simp only [Act.put, sA_, sB_, sC_, i64_w, i32_w]
        rfl
      refine pure_ (i := 9) (N := some 95) (v := ?_) (a' := ?_) #[true, true, true, true, true, true, true, true, true, true, false, false, false, false, false, false, false, false, false, false, false, false, false, false, false, false, false, false, false, false, false, false, false, false] rfl rfl (any_of HT_.out (by kernel_rfl)) (fun _ _ _ h => h) (Or.inl ⟨by rfl, ?_⟩) ?_ ?_
      rotate_left
      · intro w'
        go_simp
        with_reducible rfl
      rotate_left
      · simp only [Act.put, sA_, sB_, sC_, i64_w, i32_w]
        rfl
      refine pure_ (i := 10) (N := some 96) (v := undef) (a' := ?_) #[true, true, true, true, true, true, true, true, true, true, true, false, false, false, false, false, false, false, false, false, false, false, false, false, false, false, false, false, false, false, false, false, false, false] rfl rfl (any_of HT_.out (by kernel_rfl)) (fun _ _ _ h => h) (Or.inr ⟨by rfl, rfl⟩) ?_ ?_
      rotate_left
      · simp only [Act.put, sA_, sB_, sC_, i64_w, i32_w]
        rfl
      refine pure_ (i := 11) (N := some 97) (v := undef) (a' := ?_) #[true, true, true, true, true, true, true, true, true, true, true, true, false, false, false, false, false, false, false, false, false, false, false, false, false, false, false, false, false, false, false, false, false, false] rfl rfl (any_of HT_.out (by kernel_rfl)) (fun _ _ _ h => h) (Or.inr ⟨by rfl, rfl⟩) ?_ ?_
      rotate_left
      · simp only [Act.put, sA_, sB_, sC_, i64_w, i32_w]
        rfl
      refine pure_ (i := 12) (N := some 98) (v := undef) (a' := ?_) #[true, true, true, true, true, true, true, true, true, true, true, true, true, false, false, false, false, false, false, false, false, false, false, false, false, false, false, false, false, false, false, false, false, false] rfl rfl (any_of HT_.out (by kernel_rfl)) (fun _ _ _ h => h) (Or.inr ⟨by rfl, rfl⟩) ?_ ?_
      rotate_left
      · simp only [Act.put, sA_, sB_, sC_, i64_w, i32_w]
        rfl
      refine pure_ (i := 13) (N := some 99) (v := undef) (a' := ?_) #[true, true, true, true, true, true, true, true, true, true, true, true, true, true, false, false, false, false, false, false, false, false, false, false, false, false, false, false, false, false, false, false, false, false] rfl rfl (any_of HT_.out (by kernel_rfl)) (fun _ _ _ h => h) (Or.inr ⟨by rfl, rfl⟩) ?_ ?_
      rotate_left
      · simp only [Act.put, sA_, sB_, sC_, i64_w, i32_w]
        rfl
      refine pure_ (i := 14) (N := some 100) (v := undef) (a' := ?_) #[true, true, true, true, true, true, true, true, true, true, true, true, true, true, true, false, false, false, false, false, false, false, false, false, false, false, false, false, false, false, false, false, false, false] rfl rfl (any_of HT_.out (by kernel_rfl)) (fun _ _ _ h => h) (Or.inr ⟨by rfl, rfl⟩) ?_ ?_
      rotate_left
      · simp only [Act.put, sA_, sB_, sC_, i64_w, i32_w]
        rfl
      refine pure_ (i := 15) (N := some 101) (v := undef) (a' := ?_) #[true, true, true, true, true, true, true, true, true, true, true, true, true, true, true, true, false, false, false, false, false, false, false, false, false, false, false, false, false, false, false, false, false, false] rfl rfl (any_of HT_.out (by kernel_rfl)) (fun _ _ _ h => h) (Or.inr ⟨by rfl, rfl⟩) ?_ ?_
      rotate_left
      · simp only [Act.put, sA_, sB_, sC_, i64_w, i32_w]
        rfl
      refine pure_ (i := 16) (N := some 102) (v := ?_) (a' := ?_) #[true, true, true, true, true, true, true, true, true, true, true, true, true, true, true, true, true, false, false, false, false, false, false, false, false, false, false, false, false, false, false, false, false, false] rfl rfl (any_of HT_.out (by kernel_rfl)) (fun _ _ _ h => h) (Or.inl ⟨by rfl, ?_⟩) ?_ ?_
      rotate_left
      · intro w'
        go_simp
        with_reducible rfl
      rotate_left
      · simp only [Act.put, sA_, sB_, sC_, i64_w, i32_w]
        rfl
      refine pure_ (i := 17) (N := some 103) (v := ?_) (a' := ?_) #[true, true, true, true, true, true, true, true, true, true, true, true, true, true, true, true, true, true, false, false, false, false, false, false, false, false, false, false, false, false, false, false, false, false] rfl rfl (any_of HT_.out (by kernel_rfl)) (fun _ _ _ h => h) (Or.inl ⟨by rfl, ?_⟩) ?_ ?_
      rotate_left
      · intro w'
        go_simp
        with_reducible rfl
      rotate_left
      · simp only [Act.put, sA_, sB_, sC_, i64_w, i32_w]
        rfl
      refine pure_ (i := 18) (N := some 104) (v := undef) (a' := ?_) #[true, true, true, true, true, true, true, true, true, true, true, true, true, true, true, true, true, true, true, false, false, false, false, false, false, false, false, false, false, false, false, false, false, false] rfl rfl (any_of HT_.out (by kernel_rfl)) (fun _ _ _ h => h) (Or.inr ⟨by rfl, rfl⟩) ?_ ?_
      rotate_left
      · simp only [Act.put, sA_, sB_, sC_, i64_w, i32_w]
        rfl
      refine pure_ (i := 19) (N := some 105) (v := undef) (a' := ?_) #[true, true, true, true, true, true, true, true, true, true, true, true, true, true, true, true, true, true, true, true, false, false, false, false, false, false, false, false, false, false, false, false, false, false] rfl rfl (any_of HT_.out (by kernel_rfl)) (fun _ _ _ h => h) (Or.inr ⟨by rfl, rfl⟩) ?_ ?_
      rotate_left
      · simp only [Act.put, sA_, sB_, sC_, i64_w, i32_w]
        rfl
      refine pure_ (i := 20) (N := some 106) (v := undef) (a' := ?_) #[true, true, true, true, true, true, true, true, true, true, true, true, true, true, true, true, true, true, true, true, true, false, false, false, false, false, false, false, false, false, false, false, false, false] rfl rfl (any_of HT_.out (by kernel_rfl)) (fun _ _ _ h => h) (Or.inr ⟨by rfl, rfl⟩) ?_ ?_
      rotate_left
      · simp only [Act.put, sA_, sB_, sC_, i64_w, i32_w]
        rfl
      refine pure_ (i := 21) (N := some 107) (v := undef) (a' := ?_) #[true, true, true, true, true, true, true, true, true, true, true, true, true, true, true, true, true, true, true, true, true, true, false, false, false, false, false, false, false, false, false, false, false, false] rfl rfl (any_of HT_.out (by kernel_rfl)) (fun _ _ _ h => h) (Or.inr ⟨by rfl, rfl⟩) ?_ ?_
      rotate_left
      · simp only [Act.put, sA_, sB_, sC_, i64_w, i32_w]
        rfl
      refine pure_ (i := 22) (N := some 108) (v := undef) (a' := ?_) #[true, true, true, true, true, true, true, true, true, true, true, true, true, true, true, true, true, true, true, true, true, true, true, false, false, false, false, false, false, false, false, false, false, false] rfl rfl (any_of HT_.out (by kernel_rfl)) (fun _ _ _ h => h) (Or.inr ⟨by rfl, rfl⟩) ?_ ?_
      rotate_left
      · simp only [Act.put, sA_, sB_, sC_, i64_w, i32_w]
        rfl
      refine pure_ (i := 23) (N := some 109) (v := undef) (a' := ?_) #[true, true, true, true, true, true, true, true, true, true, true, true, true, true, true, true, true, true, true, true, true, true, true, true, false, false, false, false, false, false, false, false, false, false] rfl rfl (any_of HT_.out (by kernel_rfl)) (fun _ _ _ h => h) (Or.inr ⟨by rfl, rfl⟩) ?_ ?_
      rotate_left
      · simp only [Act.put, sA_, sB_, sC_, i64_w, i32_w]
        rfl
      refine pure_ (i := 24) (N := some 110) (v := ?_) (a' := ?_) #[true, true, true, true, true, true, true, true, true, true, true, true, true, true, true, true, true, true, true, true, true, true, true, true, true, false, false, false, false, false, false, false, false, false] rfl rfl (any_of HT_.out (by kernel_rfl)) (fun _ _ _ h => h) (Or.inl ⟨by rfl, ?_⟩) ?_ ?_
      rotate_left
      · intro w'
        go_simp
        with_reducible rfl
      rotate_left
      · simp only [Act.put, sA_, sB_, sC_, i64_w, i32_w]
        rfl
      refine pure_ (i := 25) (N := some 111) (v := ?_) (a' := ?_) #[true, true, true, true, true, true, true, true, true, true, true, true, true, true, true, true, true, true, true, true, true, true, true, true, true, true, false, false, false, false, false, false, false, false] rfl rfl (any_of HT_.out (by kernel_rfl)) (fun _ _ _ h => h) (Or.inl ⟨by rfl, ?_⟩) ?_ ?_
      rotate_left
      · intro w'
        go_simp
        with_reducible rfl
      rotate_left
      · simp only [Act.put, sA_, sB_, sC_, i64_w, i32_w]
        rfl
      refine pure_ (i := 26) (N := some 112) (v := undef) (a' := ?_) #[true, true, true, true, true, true, true, true, true, true, true, true, true, true, true, true, true, true, true, true, true, true, true, true, true, true, true, false, false, false, false, false, false, false] rfl rfl (any_of HT_.out (by kernel_rfl)) (fun _ _ _ h => h) (Or.inr ⟨by rfl, rfl⟩) ?_ ?_
      rotate_left
      · simp only [Act.put, sA_, sB_, sC_, i64_w, i32_w]
        rfl
      refine pure_ (i := 27) (N := some 113) (v := undef) (a' := ?_) #[true, true, true, true, true, true, true, true, true, true, true, true, true, true, true, true, true, true, true, true, true, true, true, true, true, true, true, true, false, false, false, false, false, false] rfl rfl (any_of HT_.out (by kernel_rfl)) (fun _ _ _ h => h) (Or.inr ⟨by rfl, rfl⟩) ?_ ?_
      rotate_left
      · simp only [Act.put, sA_, sB_, sC_, i64_w, i32_w]
        rfl
      refine pure_ (i := 28) (N := some 114) (v := undef) (a' := ?_) #[true, true, true, true, true, true, true, true, true, true, true, true, true, true, true, true, true, true, true, true, true, true, true, true, true, true, true, true, true, false, false, false, false, false] rfl rfl (any_of HT_.out (by kernel_rfl)) (fun _ _ _ h => h) (Or.inr ⟨by rfl, rfl⟩) ?_ ?_
      rotate_left
      · simp only [Act.put, sA_, sB_, sC_, i64_w, i32_w]
        rfl
      refine pure_ (i := 29) (N := some 115) (v := undef) (a' := ?_) #[true, true, true, true, true, true, true, true, true, true, true, true, true, true, true, true, true, true, true, true, true, true, true, true, true, true, true, true, true, true, false, false, false, false] rfl rfl (any_of HT_.out (by kernel_rfl)) (fun _ _ _ h => h) (Or.inr ⟨by rfl, rfl⟩) ?_ ?_
      rotate_left
      · simp only [Act.put, sA_, sB_, sC_, i64_w, i32_w]
        rfl
      refine pure_ (i := 30) (N := some 116) (v := undef) (a' := ?_) #[true, true, true, true, true, true, true, true, true, true, true, true, true, true, true, true, true, true, true, true, true, true, true, true, true, true, true, true, true, true, true, false, false, false] rfl rfl (any_of HT_.out (by kernel_rfl)) (fun _ _ _ h => h) (Or.inr ⟨by rfl, rfl⟩) ?_ ?_
      rotate_left
      · simp only [Act.put, sA_, sB_, sC_, i64_w, i32_w]
        rfl
      refine pure_ (i := 31) (N := some 117) (v := undef) (a' := ?_) #[true, true, true, true, true, true, true, true, true, true, true, true, true, true, true, true, true, true, true, true, true, true, true, true, true, true, true, true, true, true, true, true, false, false] rfl rfl (any_of HT_.out (by kernel_rfl)) (fun _ _ _ h => h) (Or.inr ⟨by rfl, rfl⟩) ?_ ?_
      rotate_left
      · simp only [Act.put, sA_, sB_, sC_, i64_w, i32_w]
        rfl
      refine pure_ (i := 32) (N := some 118) (v := ?_) (a' := ?_) #[true, true, true, true, true, true, true, true, true, true, true, true, true, true, true, true, true, true, true, true, true, true, true, true, true, true, true, true, true, true, true, true, true, false] rfl rfl (any_of HT_.out (by kernel_rfl)) (fun _ _ _ h => h) (Or.inl ⟨by rfl, ?_⟩) ?_ ?_
      rotate_left
      · intro w'
        go_simp
        with_reducible rfl
      rotate_left
      · simp only [Act.put, sA_, sB_, sC_, i64_w, i32_w]
        rfl
      refine pure_ (i := 33) (N := some 10) (v := ?_) (a' := ?_) #[true, true, true, true, true, true, true, true, true, true, true, true, true, true, true, true, true, true, true, true, true, true, true, true, true, true, true, true, true, true, true, true, true, true] rfl rfl (any_of HT_.out (by kernel_rfl)) (fun _ _ _ h => h) (Or.inl ⟨by rfl, ?_⟩) ?_ ?_
      rotate_left
      · intro w'
        go_simp
        with_reducible rfl
      rotate_left
      · simp only [Act.put, sA_, sB_, sC_, i64_w, i32_w]
        rfl
      refine done_ (done_of HT_.out (by kernel_rfl)) ?_
      try go_wp2
      go_ret
      exact ⟨by first | rfl | (simp [errW_none, errW_some] <;> rfl) | (simp only [← hji31, ← hji46]; first | rfl | (simp [errW_none, errW_some] <;> rfl)) | (simp [*, errW_none, errW_some] <;> rfl), by repeat (first | (with_reducible first | exact HB.out | apply below_alloc | apply pw_below_drewN | apply below_drew1 | refine below_set ?_ GE206.out) | exact HB.out)⟩
    rw [if_neg c15] at H
    exact absurd H (by simp)
  rw [if_neg c14] at H
  exact absurd H (by simp)

end Go.Proofs.Ytijldedhcjkhiaa.X
