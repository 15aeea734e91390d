-- laid by xprint.py (a program of this session over the kit's print); Lean checks it
import Derived.Test.YtpeikjnkbjabpaaDoorX0
import Derived.Test.YtpeikjnkbjabpaaDoorX1
import Derived.Test.YtpeikjnkbjabpaaDoorX3
import Derived.Test.YtpeikjnkbjabpaaDoorX4
namespace Go.Proofs.YtpeikjnkbjabpaaDoor.X
open Go.RowKit Go.Proofs.YtpeikjnkbjabpaaDoorW.PrintWords Go.Proofs.YtpeikjnkbjabpaaDoorW.PrintLast Go.Proofs.YtpeikjnkbjabpaaDoorW.PrintMore
attribute [local go_sem] max2_int min2_int max_two min_two max_three min_three max_four min_four   -- for this text's walks alone
set_option linter.unusedVariables false
set_option linter.unusedSimpArgs false

/-! ### impl_SubMatrix: function 17 -/
def impl_SubMatrix.j0 : Nat → List (List Int) → Int → Int → Int → Int → Bool → Option ((List (List Int)) × Bool)
  | 0, _, _, _, _, _, _ => none
  | k + 1, x0, x1, x2, x3, x4, x48 => if x48 = true then (some (([] : List (List Int)), false)) else ((impl_rows.f k x0).bind fun t192 => ((reedsolomon_DoorSubMatrix.f k t192 x1 x2 x3 x4).bind fun bt195 => ((impl_rows.f k bt195.1).bind fun t200 => (if bt195.2.isNone = true then (some (t200, true)) else (some (t200, false))))))
def impl_SubMatrix.f (k : Nat) (l0 : List (List Int)) (a1 : Int) (a2 : Int) (a3 : Int) (a4 : Int) : Option ((List (List Int)) × Bool) := (impl_isMatrix.f k l0).bind fun t190 => (if t190 = true then (if a1 < 0 then (impl_SubMatrix.j0 k l0 a1 a2 a3 a4 true) else (if a2 < 0 then (impl_SubMatrix.j0 k l0 a1 a2 a3 a4 true) else (if a3 > (l0.length : Int) then (impl_SubMatrix.j0 k l0 a1 a2 a3 a4 true) else (if 0 < (l0.length : Int) then (if a4 > ((rd_L1 l0 0).length : Int) then (impl_SubMatrix.j0 k l0 a1 a2 a3 a4 true) else (if a1 ≥ a3 then (impl_SubMatrix.j0 k l0 a1 a2 a3 a4 true) else (impl_SubMatrix.j0 k l0 a1 a2 a3 a4 (decide (a2 ≥ a4))))) else (none))))) else (impl_SubMatrix.j0 k l0 a1 a2 a3 a4 true))
theorem impl_SubMatrix.mono_l : ∀ k, (∀ y0 y1 y2 y3 y4 y5, LeO (impl_SubMatrix.j0 k y0 y1 y2 y3 y4 y5) (impl_SubMatrix.j0 (k + 1) y0 y1 y2 y3 y4 y5))
  | 0 => fun _ _ _ _ _ _ r h => by simp [impl_SubMatrix.j0] at h
  | k + 1 => by
    have ih0 := impl_SubMatrix.mono_l k
    · intro y0 y1 y2 y3 y4 y5
      unfold impl_SubMatrix.j0
      repeat' first
      | (with_reducible exact ih0 _ _ _ _ _ _)
      | (with_reducible exact impl_isMatrix.mono _ _)
      | (with_reducible exact impl_rows.mono _ _)
      | (with_reducible exact reedsolomon_DoorSubMatrix.mono _ _ _ _ _ _)
      | (with_reducible exact LeO.refl _)
      | (with_reducible exact LeO.none _)
      | (with_reducible refine LeO.ite ?_ ?_)
      | (with_reducible refine LeO.bind ?_ (fun _ => ?_))
      | exact ih0 _ _ _ _ _ _
      | exact impl_isMatrix.mono _ _
      | exact impl_rows.mono _ _
      | exact reedsolomon_DoorSubMatrix.mono _ _ _ _ _ _
      | exact LeO.none _
      | refine LeO.ite ?_ ?_
      | refine LeO.bind ?_ (fun _ => ?_)
theorem impl_SubMatrix.mono : ∀ a0 a1 a2 a3 a4 k, LeO (impl_SubMatrix.f k a0 a1 a2 a3 a4) (impl_SubMatrix.f (k + 1) a0 a1 a2 a3 a4) := by
  intro a0 a1 a2 a3 a4 k
  have ih0 := impl_SubMatrix.mono_l k
  unfold impl_SubMatrix.f
  repeat' first
      | (with_reducible exact ih0 _ _ _ _ _ _)
      | (with_reducible exact impl_isMatrix.mono _ _)
      | (with_reducible exact impl_rows.mono _ _)
      | (with_reducible exact reedsolomon_DoorSubMatrix.mono _ _ _ _ _ _)
      | (with_reducible exact LeO.refl _)
      | (with_reducible exact LeO.none _)
      | (with_reducible refine LeO.ite ?_ ?_)
      | (with_reducible refine LeO.bind ?_ (fun _ => ?_))
      | exact ih0 _ _ _ _ _ _
      | exact impl_isMatrix.mono _ _
      | exact impl_rows.mono _ _
      | exact reedsolomon_DoorSubMatrix.mono _ _ _ _ _ _
      | exact LeO.none _
      | refine LeO.ite ?_ ?_
      | refine LeO.bind ?_ (fun _ => ?_)
set_option maxHeartbeats 8000000 in
set_option maxRecDepth 100000 in
theorem impl_SubMatrix.calls (k : Nat) (A0 : Option Addr) (c0 : Nat) (l0 : List (List Int)) (a1 : Int) (a2 : Int) (a3 : Int) (a4 : Int) (r1 : List (List Int)) (r2 : Bool) (w : World) (hGE : GlobE w) (hr0 : Kd.C (Kd.slice 5 (Kd.int .u8)) w A0 l0.length l0) (hc0 : l0.length ≤ c0) (h : impl_SubMatrix.f k l0 a1 a2 a3 a4 = some (r1, r2)) :
    Calls Tryd.prog 17 #[.slice A0 l0.length c0, .int .i64 a1, .int .i64 a2, .int .i64 a3, .int .i64 a4] w fun e w' => ∃ v0_ : Value, e = .returned (.tuple #[v0_, .bool r2]) ∧ Kd.S (Kd.slice 5 (Kd.int .u8)) 22 w' w.heap.size (fun _ => True) v0_ r1 ∧ Below w.heap.size w w' := by
  have hu52 := Tryd.underlying52
  have HR0 := Aside0.mk hr0
  have HC0 := Aside0.mk hc0
  clear hr0 hc0
  have HB := Aside0.mk (Below.refl w.heap.size w)
  have H : ((impl_isMatrix.f k l0).bind fun t190 => (if t190 = true then (if a1 < 0 then (impl_SubMatrix.j0 k l0 a1 a2 a3 a4 true) else (if a2 < 0 then (impl_SubMatrix.j0 k l0 a1 a2 a3 a4 true) else (if a3 > (l0.length : Int) then (impl_SubMatrix.j0 k l0 a1 a2 a3 a4 true) else (if 0 < (l0.length : Int) then (if a4 > ((rd_L1 l0 0).length : Int) then (impl_SubMatrix.j0 k l0 a1 a2 a3 a4 true) else (if a1 ≥ a3 then (impl_SubMatrix.j0 k l0 a1 a2 a3 a4 true) else (impl_SubMatrix.j0 k l0 a1 a2 a3 a4 (decide (a2 ≥ a4))))) else (none))))) else (impl_SubMatrix.j0 k l0 a1 a2 a3 a4 true))) = some (r1, r2) := h
  clear h
  have HC6 := Aside0.mk H
  clear H
  go_enter Tryd.func17, Tryd.ntmps17
  go_upto_region 1 with (fail)
  go_cut [48] (fun v48 wc => ∃ (kq : Nat) (x48_5 : Bool), v48 = .bool x48_5 ∧ Aside0 (impl_SubMatrix.j0 kq l0 a1 a2 a3 a4 x48_5 = some (r1, r2)) ∧ Aside0 (kq ≤ k) ∧ Aside0 (Below w.heap.size w wc))
  case first =>
    have H := HC6.out
    clear HC6
    replace H := Option.bind_eq_some_iff.mp H
    obtain ⟨t190, A70, H⟩ := H
    replace H : (if t190 = true then (if a1 < 0 then (impl_SubMatrix.j0 k l0 a1 a2 a3 a4 true) else (if a2 < 0 then (impl_SubMatrix.j0 k l0 a1 a2 a3 a4 true) else (if a3 > (l0.length : Int) then (impl_SubMatrix.j0 k l0 a1 a2 a3 a4 true) else (if 0 < (l0.length : Int) then (if a4 > ((rd_L1 l0 0).length : Int) then (impl_SubMatrix.j0 k l0 a1 a2 a3 a4 true) else (if a1 ≥ a3 then (impl_SubMatrix.j0 k l0 a1 a2 a3 a4 true) else (impl_SubMatrix.j0 k l0 a1 a2 a3 a4 (decide (a2 ≥ a4))))) else (none))))) else (impl_SubMatrix.j0 k l0 a1 a2 a3 a4 true)) = some (r1, r2) := H
    have A7 := Aside0.mk A70
    clear A70
    by_cases c8 : t190 = true
    · subst c8
      have H1 : (if a1 < 0 then (impl_SubMatrix.j0 k l0 a1 a2 a3 a4 true) else (if a2 < 0 then (impl_SubMatrix.j0 k l0 a1 a2 a3 a4 true) else (if a3 > (l0.length : Int) then (impl_SubMatrix.j0 k l0 a1 a2 a3 a4 true) else (if 0 < (l0.length : Int) then (if a4 > ((rd_L1 l0 0).length : Int) then (impl_SubMatrix.j0 k l0 a1 a2 a3 a4 true) else (if a1 ≥ a3 then (impl_SubMatrix.j0 k l0 a1 a2 a3 a4 true) else (impl_SubMatrix.j0 k l0 a1 a2 a3 a4 (decide (a2 ≥ a4))))) else (none))))) = some (r1, r2) := by rw [if_pos rfl] at H; exact H
      clear H
      have H := H1
      clear H1
      by_cases c9 : a1 < 0
      · rw [if_pos c9] at H
        have c9b0 : decide (a1 < 0) = true := decide_eq_true c9
        clear c9
        (first | rw [c9b0] | (simp only [i64_w, i32_w]; rw [c9b0]) | skip)
        have H' := Aside0.mk H
        clear H
        go_wp2_with (first | ((with_reducible refine gate_callee (f := 34) rfl ?_); refine goesL_ (some 15) rfl rfl Tryd.func34 (by kernel_rfl) rfl #[.slice A0 l0.length c0] rfl (by (try simp only [List.map_toArray, List.map_cons, List.map_nil]); first | done | rfl | (simp only [List.length_drop, List.length_take]; rfl)) ?_; (with_reducible refine (impl_isMatrix.calls k _ _ l0 true _ ?side3 ?side1 ?side2 A7.out).mono ?_); (case side1 => repeat (first | exact (Kd.C_below HR0.out HB.out) | (with_reducible refine Kd.C_alloc ?_ _) | (with_reducible refine Kd.C_drewN ?_ _) | (with_reducible refine Kd.C_drew ?_))); (case side2 => exact HC0.out); (case side3 => exact GlobE.below hGE (by repeat (first | (with_reducible first | exact HB.out | apply below_alloc | apply pw_below_drewN | apply below_drew1) | exact HB.out))); rintro e w10 ⟨rfl, hb⟩; refine ⟨_, rfl, ?_⟩; have n0_ := Aside0.mk (below_step (by repeat (first | (with_reducible first | exact HB.out | apply below_alloc | apply pw_below_drewN | apply below_drew1) | exact HB.out)) hb); clear HB; have HB := n0_; clear n0_; (try clear hb); (try clear hb2); (try clear hk); (try clear hi)))
        go_meet
        case rel => exact ⟨_, (true), (by first | rfl | (simp; done) | (simp [*]; done)), H', ⟨by first | omega | exact Nat.le_refl _⟩, ⟨by repeat (first | (with_reducible first | exact HB.out | apply below_alloc | apply pw_below_drewN | apply below_drew1) | exact HB.out)⟩⟩
      · rw [if_neg c9] at H
        have c9b0 : decide (a1 < 0) = false := decide_eq_false c9
        clear c9
        (first | rw [c9b0] | (simp only [i64_w, i32_w]; rw [c9b0]) | skip)
        by_cases c11 : a2 < 0
        · rw [if_pos c11] at H
          have c11b0 : decide (a2 < 0) = true := decide_eq_true c11
          clear c11
          have H' := Aside0.mk H
          clear H
          go_wp2_with (first | ((with_reducible refine gate_callee (f := 34) rfl ?_); refine goesL_ (some 15) rfl rfl Tryd.func34 (by kernel_rfl) rfl #[.slice A0 l0.length c0] rfl (by (try simp only [List.map_toArray, List.map_cons, List.map_nil]); first | done | rfl | (simp only [List.length_drop, List.length_take]; rfl)) ?_; (with_reducible refine (impl_isMatrix.calls k _ _ l0 true _ ?side3 ?side1 ?side2 A7.out).mono ?_); (case side1 => repeat (first | exact (Kd.C_below HR0.out HB.out) | (with_reducible refine Kd.C_alloc ?_ _) | (with_reducible refine Kd.C_drewN ?_ _) | (with_reducible refine Kd.C_drew ?_))); (case side2 => exact HC0.out); (case side3 => exact GlobE.below hGE (by repeat (first | (with_reducible first | exact HB.out | apply below_alloc | apply pw_below_drewN | apply below_drew1) | exact HB.out))); rintro e w12 ⟨rfl, hb⟩; refine ⟨_, rfl, ?_⟩; have n0_ := Aside0.mk (below_step (by repeat (first | (with_reducible first | exact HB.out | apply below_alloc | apply pw_below_drewN | apply below_drew1) | exact HB.out)) hb); clear HB; have HB := n0_; clear n0_; (try clear hb); (try clear hb2); (try clear hk); (try clear hi)))
          go_meet
          case rel => exact ⟨_, (true), (by first | rfl | (simp; done) | (simp [*]; done)), H', ⟨by first | omega | exact Nat.le_refl _⟩, ⟨by repeat (first | (with_reducible first | exact HB.out | apply below_alloc | apply pw_below_drewN | apply below_drew1) | exact HB.out)⟩⟩
        · rw [if_neg c11] at H
          have c11b0 : decide (a2 < 0) = false := decide_eq_false c11
          clear c11
          by_cases c13 : a3 > (l0.length : Int)
          · rw [if_pos c13] at H
            have c13b0 : decide ((l0.length : Int) < a3) = true := decide_eq_true c13
            clear c13
            have H' := Aside0.mk H
            clear H
            go_wp2_with (first | ((with_reducible refine gate_callee (f := 34) rfl ?_); refine goesL_ (some 15) rfl rfl Tryd.func34 (by kernel_rfl) rfl #[.slice A0 l0.length c0] rfl (by (try simp only [List.map_toArray, List.map_cons, List.map_nil]); first | done | rfl | (simp only [List.length_drop, List.length_take]; rfl)) ?_; (with_reducible refine (impl_isMatrix.calls k _ _ l0 true _ ?side3 ?side1 ?side2 A7.out).mono ?_); (case side1 => repeat (first | exact (Kd.C_below HR0.out HB.out) | (with_reducible refine Kd.C_alloc ?_ _) | (with_reducible refine Kd.C_drewN ?_ _) | (with_reducible refine Kd.C_drew ?_))); (case side2 => exact HC0.out); (case side3 => exact GlobE.below hGE (by repeat (first | (with_reducible first | exact HB.out | apply below_alloc | apply pw_below_drewN | apply below_drew1) | exact HB.out))); rintro e w14 ⟨rfl, hb⟩; refine ⟨_, rfl, ?_⟩; have n0_ := Aside0.mk (below_step (by repeat (first | (with_reducible first | exact HB.out | apply below_alloc | apply pw_below_drewN | apply below_drew1) | exact HB.out)) hb); clear HB; have HB := n0_; clear n0_; (try clear hb); (try clear hb2); (try clear hk); (try clear hi)))
            go_meet
            case rel => exact ⟨_, (true), (by first | rfl | (simp; done) | (simp [*]; done)), H', ⟨by first | omega | exact Nat.le_refl _⟩, ⟨by repeat (first | (with_reducible first | exact HB.out | apply below_alloc | apply pw_below_drewN | apply below_drew1) | exact HB.out)⟩⟩
          · rw [if_neg c13] at H
            have c13b0 : decide ((l0.length : Int) < a3) = false := decide_eq_false c13
            clear c13
            by_cases c15 : 0 < (l0.length : Int)
            · rw [if_pos c15] at H
              have c15b0 : decide (0 < (l0.length : Int)) = true := decide_eq_true c15
              have c15b1 : decide (0 < l0.length) = true := decide_eq_true (by omega)
              clear c15
              by_cases c16 : a4 > ((rd_L1 l0 0).length : Int)
              · rw [if_pos c16] at H
                have c16b0 : decide (((rd_L1 l0 0).length : Int) < a4) = true := decide_eq_true c16
                clear c16
                have H' := Aside0.mk H
                clear H
                go_wp2_with (first | ((with_reducible refine gate_callee (f := 34) rfl ?_); refine goesL_ (some 15) rfl rfl Tryd.func34 (by kernel_rfl) rfl #[.slice A0 l0.length c0] rfl (by (try simp only [List.map_toArray, List.map_cons, List.map_nil]); first | done | rfl | (simp only [List.length_drop, List.length_take]; rfl)) ?_; (with_reducible refine (impl_isMatrix.calls k _ _ l0 true _ ?side3 ?side1 ?side2 A7.out).mono ?_); (case side1 => repeat (first | exact (Kd.C_below HR0.out HB.out) | (with_reducible refine Kd.C_alloc ?_ _) | (with_reducible refine Kd.C_drewN ?_ _) | (with_reducible refine Kd.C_drew ?_))); (case side2 => exact HC0.out); (case side3 => exact GlobE.below hGE (by repeat (first | (with_reducible first | exact HB.out | apply below_alloc | apply pw_below_drewN | apply below_drew1) | exact HB.out))); rintro e w17 ⟨rfl, hb⟩; refine ⟨_, rfl, ?_⟩; have n0_ := Aside0.mk (below_step (by repeat (first | (with_reducible first | exact HB.out | apply below_alloc | apply pw_below_drewN | apply below_drew1) | exact HB.out)) hb); clear HB; have HB := n0_; clear n0_; (try clear hb); (try clear hb2); (try clear hk); (try clear hi); have p191 : 0 ≤ (0 : Int) := (by omega); have q191 : 0 < (l0.length : Int) := of_decide_eq_true (by first | (with_reducible assumption) | assumption); obtain ⟨ad191, A191_0, c191_0, e191, hx191_0, hl191_0, hi191_0⟩ := at_L1 HR0.out 0 p191 q191; cases e191; have qi191 : (0 < l0.length) = True := eq_true (by omega); (try rw [show ((0 : Int)).toNat = 0 from rfl] at hx191_0); (try rw [Addr.add_zero'] at hx191_0); (try replace hx191_0 := (HB.out.cell (World.block_lt_of_cell? w _ hx191_0)).trans hx191_0); have HR191_0 := Aside0.mk hi191_0; have HC191_0 := Aside0.mk hl191_0; clear hi191_0 hl191_0; replace p191 := eq_true p191; replace q191 := eq_true q191))
                go_meet
                case rel => exact ⟨_, (true), (by first | rfl | (simp; done) | (simp [*]; done)), H', ⟨by first | omega | exact Nat.le_refl _⟩, ⟨by repeat (first | (with_reducible first | exact HB.out | apply below_alloc | apply pw_below_drewN | apply below_drew1) | exact HB.out)⟩⟩
              · rw [if_neg c16] at H
                have c16b0 : decide (((rd_L1 l0 0).length : Int) < a4) = false := decide_eq_false c16
                clear c16
                by_cases c18 : a1 ≥ a3
                · rw [if_pos c18] at H
                  have c18b0 : decide (a3 ≤ a1) = true := decide_eq_true c18
                  clear c18
                  have H' := Aside0.mk H
                  clear H
                  go_wp2_with (first | ((with_reducible refine gate_callee (f := 34) rfl ?_); refine goesL_ (some 15) rfl rfl Tryd.func34 (by kernel_rfl) rfl #[.slice A0 l0.length c0] rfl (by (try simp only [List.map_toArray, List.map_cons, List.map_nil]); first | done | rfl | (simp only [List.length_drop, List.length_take]; rfl)) ?_; (with_reducible refine (impl_isMatrix.calls k _ _ l0 true _ ?side3 ?side1 ?side2 A7.out).mono ?_); (case side1 => repeat (first | exact (Kd.C_below HR0.out HB.out) | (with_reducible refine Kd.C_alloc ?_ _) | (with_reducible refine Kd.C_drewN ?_ _) | (with_reducible refine Kd.C_drew ?_))); (case side2 => exact HC0.out); (case side3 => exact GlobE.below hGE (by repeat (first | (with_reducible first | exact HB.out | apply below_alloc | apply pw_below_drewN | apply below_drew1) | exact HB.out))); rintro e w19 ⟨rfl, hb⟩; refine ⟨_, rfl, ?_⟩; have n0_ := Aside0.mk (below_step (by repeat (first | (with_reducible first | exact HB.out | apply below_alloc | apply pw_below_drewN | apply below_drew1) | exact HB.out)) hb); clear HB; have HB := n0_; clear n0_; (try clear hb); (try clear hb2); (try clear hk); (try clear hi); have p191 : 0 ≤ (0 : Int) := (by omega); have q191 : 0 < (l0.length : Int) := of_decide_eq_true (by first | (with_reducible assumption) | assumption); obtain ⟨ad191, A191_0, c191_0, e191, hx191_0, hl191_0, hi191_0⟩ := at_L1 HR0.out 0 p191 q191; cases e191; have qi191 : (0 < l0.length) = True := eq_true (by omega); (try rw [show ((0 : Int)).toNat = 0 from rfl] at hx191_0); (try rw [Addr.add_zero'] at hx191_0); (try replace hx191_0 := (HB.out.cell (World.block_lt_of_cell? w _ hx191_0)).trans hx191_0); have HR191_0 := Aside0.mk hi191_0; have HC191_0 := Aside0.mk hl191_0; clear hi191_0 hl191_0; replace p191 := eq_true p191; replace q191 := eq_true q191))
                  go_meet
                  case rel => exact ⟨_, (true), (by first | rfl | (simp; done) | (simp [*]; done)), H', ⟨by first | omega | exact Nat.le_refl _⟩, ⟨by repeat (first | (with_reducible first | exact HB.out | apply below_alloc | apply pw_below_drewN | apply below_drew1) | exact HB.out)⟩⟩
                · rw [if_neg c18] at H
                  have c18b0 : decide (a3 ≤ a1) = false := decide_eq_false c18
                  clear c18
                  have H' := Aside0.mk H
                  clear H
                  go_wp2_with (first | ((with_reducible refine gate_callee (f := 34) rfl ?_); refine goesL_ (some 15) rfl rfl Tryd.func34 (by kernel_rfl) rfl #[.slice A0 l0.length c0] rfl (by (try simp only [List.map_toArray, List.map_cons, List.map_nil]); first | done | rfl | (simp only [List.length_drop, List.length_take]; rfl)) ?_; (with_reducible refine (impl_isMatrix.calls k _ _ l0 true _ ?side3 ?side1 ?side2 A7.out).mono ?_); (case side1 => repeat (first | exact (Kd.C_below HR0.out HB.out) | (with_reducible refine Kd.C_alloc ?_ _) | (with_reducible refine Kd.C_drewN ?_ _) | (with_reducible refine Kd.C_drew ?_))); (case side2 => exact HC0.out); (case side3 => exact GlobE.below hGE (by repeat (first | (with_reducible first | exact HB.out | apply below_alloc | apply pw_below_drewN | apply below_drew1) | exact HB.out))); rintro e w20 ⟨rfl, hb⟩; refine ⟨_, rfl, ?_⟩; have n0_ := Aside0.mk (below_step (by repeat (first | (with_reducible first | exact HB.out | apply below_alloc | apply pw_below_drewN | apply below_drew1) | exact HB.out)) hb); clear HB; have HB := n0_; clear n0_; (try clear hb); (try clear hb2); (try clear hk); (try clear hi); have p191 : 0 ≤ (0 : Int) := (by omega); have q191 : 0 < (l0.length : Int) := of_decide_eq_true (by first | (with_reducible assumption) | assumption); obtain ⟨ad191, A191_0, c191_0, e191, hx191_0, hl191_0, hi191_0⟩ := at_L1 HR0.out 0 p191 q191; cases e191; have qi191 : (0 < l0.length) = True := eq_true (by omega); (try rw [show ((0 : Int)).toNat = 0 from rfl] at hx191_0); (try rw [Addr.add_zero'] at hx191_0); (try replace hx191_0 := (HB.out.cell (World.block_lt_of_cell? w _ hx191_0)).trans hx191_0); have HR191_0 := Aside0.mk hi191_0; have HC191_0 := Aside0.mk hl191_0; clear hi191_0 hl191_0; replace p191 := eq_true p191; replace q191 := eq_true q191))
                  go_meet
                  case rel => exact ⟨_, (decide (a2 ≥ a4)), (by first | rfl | (simp; done) | (simp [*]; done)), H', ⟨by first | omega | exact Nat.le_refl _⟩, ⟨by repeat (first | (with_reducible first | exact HB.out | apply below_alloc | apply pw_below_drewN | apply below_drew1) | exact HB.out)⟩⟩
            · rw [if_neg c15] at H
              exact absurd H (by simp)
    · replace c8 := Bool.eq_false_iff.mpr c8
      subst c8
      have H1 : (impl_SubMatrix.j0 k l0 a1 a2 a3 a4 true) = some (r1, r2) := by rw [if_neg (show ¬ (false = true) by decide)] at H; exact H
      clear H
      have H := H1
      clear H1
      have H' := Aside0.mk H
      clear H
      go_wp2_with (first | ((with_reducible refine gate_callee (f := 34) rfl ?_); refine goesL_ (some 15) rfl rfl Tryd.func34 (by kernel_rfl) rfl #[.slice A0 l0.length c0] rfl (by (try simp only [List.map_toArray, List.map_cons, List.map_nil]); first | done | rfl | (simp only [List.length_drop, List.length_take]; rfl)) ?_; (with_reducible refine (impl_isMatrix.calls k _ _ l0 false _ ?side3 ?side1 ?side2 A7.out).mono ?_); (case side1 => repeat (first | exact (Kd.C_below HR0.out HB.out) | (with_reducible refine Kd.C_alloc ?_ _) | (with_reducible refine Kd.C_drewN ?_ _) | (with_reducible refine Kd.C_drew ?_))); (case side2 => exact HC0.out); (case side3 => exact GlobE.below hGE (by repeat (first | (with_reducible first | exact HB.out | apply below_alloc | apply pw_below_drewN | apply below_drew1) | exact HB.out))); rintro e w21 ⟨rfl, hb⟩; refine ⟨_, rfl, ?_⟩; have n0_ := Aside0.mk (below_step (by repeat (first | (with_reducible first | exact HB.out | apply below_alloc | apply pw_below_drewN | apply below_drew1) | exact HB.out)) hb); clear HB; have HB := n0_; clear n0_; (try clear hb); (try clear hb2); (try clear hk); (try clear hi)))
      go_meet
      case rel => exact ⟨_, (true), (by first | rfl | (simp; done) | (simp [*]; done)), H', ⟨by first | omega | exact Nat.le_refl _⟩, ⟨by repeat (first | (with_reducible first | exact HB.out | apply below_alloc | apply pw_below_drewN | apply below_drew1) | exact HB.out)⟩⟩
  case rest =>
    clear HC6
    try clear c1
    try clear p1
    try clear q1
    try clear hx1
    try clear qi1
    try clear p2
    try clear c3
    try clear c8
    try clear c9
    try clear c9b0
    try clear c11
    try clear c11b0
    try clear c13
    try clear c13b0
    try clear c15
    try clear c15b0
    try clear c15b1
    try clear c16
    try clear c16b0
    try clear c17
    try clear c18
    try clear c18b0
    try clear c19
    try clear p19
    try clear q19
    try clear hx19
    try clear qi19
    try clear hx191_0
    try clear p191
    try clear q191
    obtain ⟨kq, x48_5, rfl, HA, HJ5, HB⟩ := hcut
    cases kq with
    | zero => exact absurd HA.out (by simp [impl_SubMatrix.j0])
    | succ kj5 =>
      have H := HA.out
      clear HA
      simp only [impl_SubMatrix.j0] at H
      by_cases c22 : x48_5 = true
      · subst c22
        have H1 : (some (([] : List (List Int)), false)) = some (r1, r2) := by rw [if_pos rfl] at H; exact H
        clear H
        have H := H1
        clear H1
        simp only [Option.some.injEq, Prod.mk.injEq] at H
        obtain ⟨rfl, rfl⟩ := H
        go_wp2
        go_ret2
        exact ⟨_, by first | rfl | (simp [errW_none, errW_some] <;> rfl) | (simp [*, errW_none, errW_some] <;> rfl), by first | exact Kd.S_nil _ _ _ _ _ | exact Kd.N_nil _ _ _ _ _ | exact Kd.V_nil _ _ _ _ _ | exact Kd.Q_nil _ _ _ _ _ | exact Kd.R_nil _ _ _ _ _, by repeat (first | (with_reducible first | exact HB.out | apply below_alloc | apply pw_below_drewN | apply below_drew1) | exact HB.out)⟩
      · replace c22 := Bool.eq_false_iff.mpr c22
        subst c22
        have H1 : ((impl_rows.f kj5 l0).bind fun t192 => ((reedsolomon_DoorSubMatrix.f kj5 t192 a1 a2 a3 a4).bind fun bt195 => ((impl_rows.f kj5 bt195.1).bind fun t200 => (if bt195.2.isNone = true then (some (t200, true)) else (some (t200, false)))))) = some (r1, r2) := by rw [if_neg (show ¬ (false = true) by decide)] at H; exact H
        clear H
        have H := H1
        clear H1
        replace H := Option.bind_eq_some_iff.mp H
        obtain ⟨t192, A230, H⟩ := H
        replace H : ((reedsolomon_DoorSubMatrix.f kj5 t192 a1 a2 a3 a4).bind fun bt195 => ((impl_rows.f kj5 bt195.1).bind fun t200 => (if bt195.2.isNone = true then (some (t200, true)) else (some (t200, false))))) = some (r1, r2) := H
        have A23 := Aside0.mk A230
        clear A230
        replace H := Option.bind_eq_some_iff.mp H
        obtain ⟨⟨t195, t196⟩, A240, H⟩ := H
        replace H : ((impl_rows.f kj5 t195).bind fun t200 => (if t196.isNone = true then (some (t200, true)) else (some (t200, false)))) = some (r1, r2) := H
        have A24 := Aside0.mk A240
        clear A240
        replace H := Option.bind_eq_some_iff.mp H
        obtain ⟨t200, A250, H⟩ := H
        replace H : (if t196.isNone = true then (some (t200, true)) else (some (t200, false))) = some (r1, r2) := H
        have A25 := Aside0.mk A250
        clear A250
        rcases t196 with _ | q203
        · have H1 : (some (t200, true)) = some (r1, r2) := by rw [if_pos (show (none : Option Int).isNone = true by rfl)] at H; exact H
          clear H
          have H := H1
          clear H1
          try simp only [errW_none, errW_some]
          simp only [Option.some.injEq, Prod.mk.injEq] at H
          obtain ⟨rfl, rfl⟩ := H
          try go_wp2_with (first | ((with_reducible refine gate_callee (f := 36) rfl ?_); refine goesL_ (some 51) rfl rfl Tryd.func36 (by kernel_rfl) rfl #[.slice A0 l0.length c0] rfl (by (try simp only [List.map_toArray, List.map_cons, List.map_nil]); first | done | rfl | (simp only [List.length_drop, List.length_take]; rfl)) ?_; (with_reducible refine (impl_rows.calls kj5 _ _ l0 t192 _ ?side1 ?side2 A23.out).mono ?_); (case side1 => repeat (first | exact (Kd.C_below HR0.out HB.out) | (with_reducible refine Kd.C_alloc ?_ _) | (with_reducible refine Kd.C_drewN ?_ _) | (with_reducible refine Kd.C_drew ?_))); (case side2 => exact HC0.out); rintro e w26 ⟨v193, rfl, ho0, hb⟩; refine ⟨_, rfl, ?_⟩; have n0_ := Aside0.mk (Kd.S_lower ho0 (below_size (by repeat (first | (with_reducible first | exact HB.out | apply below_alloc | apply pw_below_drewN | apply below_drew1) | exact HB.out)))); have n1_ := Aside0.mk (below_step (by repeat (first | (with_reducible first | exact HB.out | apply below_alloc | apply pw_below_drewN | apply below_drew1) | exact HB.out)) hb); clear HB; have HO194 := n0_; have HB := n1_; clear n0_ n1_; (try clear hb); (try clear hb2); (try clear hk); (try clear hi); (try clear ho0); obtain ⟨Ao27, co27, eo27⟩ := Kd.S_slice HO194.out; subst eo27) | ((with_reducible refine gate_callee (f := 37) rfl ?_); refine goesL_ (some 56) rfl rfl Tryd.func37 (by kernel_rfl) rfl #[.slice Ao27 t192.length co27, .int .i64 a1, .int .i64 a2, .int .i64 a3, .int .i64 a4] rfl (by (try simp only [List.map_toArray, List.map_cons, List.map_nil]); first | done | rfl | (simp only [List.length_drop, List.length_take]; rfl)) ?_; (with_reducible refine (reedsolomon_DoorSubMatrix.calls kj5 _ _ t192 a1 a2 a3 a4 t195 none _ ?side3 ?side1 ?side2 A24.out).mono ?_); (case side1 => repeat (first | exact (Kd.S_reads' HO194.out).2.2 | (with_reducible refine Kd.C_alloc ?_ _) | (with_reducible refine Kd.C_drewN ?_ _) | (with_reducible refine Kd.C_drew ?_))); (case side2 => exact (Kd.S_reads' HO194.out).2.1); (case side3 => exact GlobE.below hGE (by repeat (first | (with_reducible first | exact HB.out | apply below_alloc | apply pw_below_drewN | apply below_drew1) | exact HB.out))); rintro e w28 ⟨v197, qe199, rfl, ho0, hb⟩; refine ⟨_, rfl, ?_⟩; have n0_ := Aside0.mk (Kd.S_elder' (by (with_reducible repeat (first | apply Kd.S_alloc | apply Kd.S_drewN | apply Kd.S_drew)); exact HO194.out) (Kd.S_base ho0) hb); have n1_ := Aside0.mk (Kd.S_lower (Kd.S_new' ho0 (Kd.S_lt (by (with_reducible repeat (first | apply Kd.S_alloc | apply Kd.S_drewN | apply Kd.S_drew)); exact HO194.out))) (below_size (by repeat (first | (with_reducible first | exact HB.out | apply below_alloc | apply pw_below_drewN | apply below_drew1) | exact HB.out)))); have n2_ := Aside0.mk (below_step (by repeat (first | (with_reducible first | exact HB.out | apply below_alloc | apply pw_below_drewN | apply below_drew1) | exact HB.out)) hb); clear HO194; clear HB; have HO194 := n0_; have HO198 := n1_; have HB := n2_; clear n0_ n1_ n2_; (try clear hb); (try clear hb2); (try clear hk); (try clear hi); (try clear ho0); (try simp only [errW_none, errW_some])))
          have n0_ := Aside0.mk (Kd.S_drew HO194.out)
          have n1_ := Aside0.mk (Kd.S_drew HO198.out)
          have n2_ := Aside0.mk (below_drew1 HB.out)
          clear HO194
          clear HO198
          clear HB
          have HO194 := n0_
          have HO198 := n1_
          have HB := n2_
          clear n0_ n1_ n2_
          obtain ⟨Ao30, co30, eo30⟩ := Kd.S_slice HO198.out
          (first | subst eo30 | (injection eo30 with f1_ f2_ f3_; have f4_ := f1_.symm; have f5_ := f3_.symm; clear f1_ f2_ f3_; subst f4_; subst f5_))
          refine start_ (n := 6) (S := fun w' => True) (ds := []) #[false, false, false, false, false, false] (by kernel_rfl) rfl rfl trivial (fun hHeld => ?_)
          generalize w28.drew = w29 at HO194 HO198 HB hHeld ⊢
          refine pure_ (i := 0) (N := some 59) (v := ?_) (a' := ?_) #[true, false, false, false, false, false] rfl rfl (by kernel_rfl) (fun _ _ _ h => h) (Or.inl ⟨by rfl, ?_⟩) ?_ ?_
          rotate_left
          · intro w'
            go_simp
            with_reducible rfl
          rotate_left
          · simp only [Act.put, List.setIfInBounds_toArray, List.set_cons_zero, List.set_cons_succ, i64_w, i32_w]
            rfl
          refine pure_ (i := 2) (N := some 61) (v := ?_) (a' := ?_) #[true, false, true, false, false, false] rfl rfl (by kernel_rfl) (fun _ _ _ h => h) (Or.inl ⟨by rfl, ?_⟩) ?_ ?_
          rotate_left
          · intro w'
            go_simp
            with_reducible rfl
          rotate_left
          · simp only [Act.put, List.setIfInBounds_toArray, List.set_cons_zero, List.set_cons_succ, i64_w, i32_w]
            rfl
          refine pure_ (i := 3) (N := some 62) (v := ?_) (a' := ?_) #[true, false, true, true, false, false] rfl rfl (by kernel_rfl) (fun _ _ _ h => h) (Or.inl ⟨by rfl, ?_⟩) ?_ ?_
          rotate_left
          · intro w'
            go_simp
            with_reducible rfl
          rotate_left
          · simp only [Act.put, List.setIfInBounds_toArray, List.set_cons_zero, List.set_cons_succ, i64_w, i32_w]
            rfl
          refine one_ (i := 1) (N := some 60) #[true, true, true, true, false, false] rfl rfl (by kernel_rfl) (by decide) (fun K hK => ?_)
          refine goes_ Tryd.func36 (by kernel_rfl) rfl #[.slice Ao30 t195.length co30] (by rfl) rfl rfl (by (try simp only [List.map_toArray, List.map_cons, List.map_nil]); first | done | rfl | (simp only [List.length_drop, List.length_take]; rfl)) ?_
          with_reducible refine (impl_rows.calls kj5 _ _ t195 t200 _ ?side1 ?side2 A25.out).mono ?_
          (case side1 => repeat (first | exact (Kd.S_reads' HO198.out).2.2 | (with_reducible refine Kd.C_alloc ?_ _) | (with_reducible refine Kd.C_drewN ?_ _) | (with_reducible refine Kd.C_drew ?_)))
          (case side2 => exact (Kd.S_reads' HO198.out).2.1)
          rintro e w31 ⟨v201, rfl, ho0, hb⟩
          refine ⟨_, rfl, ?_⟩
          have n0_ := Aside0.mk (Kd.S_elder' (by (with_reducible repeat (first | apply Kd.S_alloc | apply Kd.S_drewN | apply Kd.S_drew)); exact HO194.out) (Kd.S_base ho0) hb)
          have n1_ := Aside0.mk (Kd.S_elder' (by (with_reducible repeat (first | apply Kd.S_alloc | apply Kd.S_drewN | apply Kd.S_drew)); exact HO198.out) (Kd.S_base ho0) hb)
          have n2_ := Aside0.mk (Kd.S_lower (Kd.S_new' (Kd.S_new' ho0 (Kd.S_lt (by (with_reducible repeat (first | apply Kd.S_alloc | apply Kd.S_drewN | apply Kd.S_drew)); exact HO194.out))) (Kd.S_lt (by (with_reducible repeat (first | apply Kd.S_alloc | apply Kd.S_drewN | apply Kd.S_drew)); exact HO198.out))) (below_size (by repeat (first | (with_reducible first | exact HB.out | apply below_alloc | apply pw_below_drewN | apply below_drew1) | exact HB.out))))
          have n3_ := Aside0.mk (below_step (by repeat (first | (with_reducible first | exact HB.out | apply below_alloc | apply pw_below_drewN | apply below_drew1) | exact HB.out)) hb)
          clear HO194
          clear HO198
          clear HB
          have HO194 := n0_
          have HO198 := n1_
          have HO202 := n2_
          have HB := n3_
          clear n0_ n1_ n2_ n3_
          (try clear hb)
          (try clear hb2)
          (try clear hk)
          (try clear hi)
          (try clear ho0)
          refine hK.out _ _ trivial (fun hHeld => ?_)
          clear hK K
          refine norm_ (a' := ?_) ?_ ?_
          rotate_left
          · show Act.put _ (some 60) _ = _
            simp only [Act.put, List.setIfInBounds_toArray, List.set_cons_zero, List.set_cons_succ, i64_w, i32_w]
            rfl
          refine pure_ (i := 4) (N := some 10) (v := ?_) (a' := ?_) #[true, true, true, true, true, false] rfl rfl (by kernel_rfl) (fun _ _ _ h => h) (Or.inl ⟨by rfl, ?_⟩) ?_ ?_
          rotate_left
          · intro w'
            go_simp
            with_reducible rfl
          rotate_left
          · simp only [Act.put, List.setIfInBounds_toArray, List.set_cons_zero, List.set_cons_succ, i64_w, i32_w]
            rfl
          refine pure_ (i := 5) (N := some 11) (v := ?_) (a' := ?_) #[true, true, true, true, true, true] rfl rfl (by kernel_rfl) (fun _ _ _ h => h) (Or.inl ⟨by rfl, ?_⟩) ?_ ?_
          rotate_left
          · intro w'
            go_simp
            with_reducible rfl
          rotate_left
          · simp only [Act.put, List.setIfInBounds_toArray, List.set_cons_zero, List.set_cons_succ, i64_w, i32_w]
            rfl
          refine done_ (by kernel_rfl) ?_
          try go_wp2
          go_ret2
          exact ⟨_, by first | rfl | (simp [errW_none, errW_some] <;> rfl) | (simp [*, errW_none, errW_some] <;> rfl), by (with_reducible repeat (first | apply Kd.S_alloc | apply Kd.S_drewN | apply Kd.S_drew)); exact Kd.S_mono HO202.out (fun _ hk => trivial), by repeat (first | (with_reducible first | exact HB.out | apply below_alloc | apply pw_below_drewN | apply below_drew1) | exact HB.out)⟩
        · have H1 : (some (t200, false)) = some (r1, r2) := by rw [if_neg (show ¬ (some q203).isNone = true by simp)] at H; exact H
          clear H
          have H := H1
          clear H1
          try simp only [errW_none, errW_some]
          simp only [Option.some.injEq, Prod.mk.injEq] at H
          obtain ⟨rfl, rfl⟩ := H
          try go_wp2_with (first | ((with_reducible refine gate_callee (f := 36) rfl ?_); refine goesL_ (some 51) rfl rfl Tryd.func36 (by kernel_rfl) rfl #[.slice A0 l0.length c0] rfl (by (try simp only [List.map_toArray, List.map_cons, List.map_nil]); first | done | rfl | (simp only [List.length_drop, List.length_take]; rfl)) ?_; (with_reducible refine (impl_rows.calls kj5 _ _ l0 t192 _ ?side1 ?side2 A23.out).mono ?_); (case side1 => repeat (first | exact (Kd.C_below HR0.out HB.out) | (with_reducible refine Kd.C_alloc ?_ _) | (with_reducible refine Kd.C_drewN ?_ _) | (with_reducible refine Kd.C_drew ?_))); (case side2 => exact HC0.out); rintro e w32 ⟨v193, rfl, ho0, hb⟩; refine ⟨_, rfl, ?_⟩; have n0_ := Aside0.mk (Kd.S_lower ho0 (below_size (by repeat (first | (with_reducible first | exact HB.out | apply below_alloc | apply pw_below_drewN | apply below_drew1) | exact HB.out)))); have n1_ := Aside0.mk (below_step (by repeat (first | (with_reducible first | exact HB.out | apply below_alloc | apply pw_below_drewN | apply below_drew1) | exact HB.out)) hb); clear HB; have HO194 := n0_; have HB := n1_; clear n0_ n1_; (try clear hb); (try clear hb2); (try clear hk); (try clear hi); (try clear ho0); obtain ⟨Ao33, co33, eo33⟩ := Kd.S_slice HO194.out; subst eo33) | ((with_reducible refine gate_callee (f := 37) rfl ?_); refine goesL_ (some 56) rfl rfl Tryd.func37 (by kernel_rfl) rfl #[.slice Ao33 t192.length co33, .int .i64 a1, .int .i64 a2, .int .i64 a3, .int .i64 a4] rfl (by (try simp only [List.map_toArray, List.map_cons, List.map_nil]); first | done | rfl | (simp only [List.length_drop, List.length_take]; rfl)) ?_; (with_reducible refine (reedsolomon_DoorSubMatrix.calls kj5 _ _ t192 a1 a2 a3 a4 t195 (some q203) _ ?side3 ?side1 ?side2 A24.out).mono ?_); (case side1 => repeat (first | exact (Kd.S_reads' HO194.out).2.2 | (with_reducible refine Kd.C_alloc ?_ _) | (with_reducible refine Kd.C_drewN ?_ _) | (with_reducible refine Kd.C_drew ?_))); (case side2 => exact (Kd.S_reads' HO194.out).2.1); (case side3 => exact GlobE.below hGE (by repeat (first | (with_reducible first | exact HB.out | apply below_alloc | apply pw_below_drewN | apply below_drew1) | exact HB.out))); rintro e w34 ⟨v197, qe199, rfl, ho0, hb⟩; refine ⟨_, rfl, ?_⟩; have n0_ := Aside0.mk (Kd.S_elder' (by (with_reducible repeat (first | apply Kd.S_alloc | apply Kd.S_drewN | apply Kd.S_drew)); exact HO194.out) (Kd.S_base ho0) hb); have n1_ := Aside0.mk (Kd.S_lower (Kd.S_new' ho0 (Kd.S_lt (by (with_reducible repeat (first | apply Kd.S_alloc | apply Kd.S_drewN | apply Kd.S_drew)); exact HO194.out))) (below_size (by repeat (first | (with_reducible first | exact HB.out | apply below_alloc | apply pw_below_drewN | apply below_drew1) | exact HB.out)))); have n2_ := Aside0.mk (below_step (by repeat (first | (with_reducible first | exact HB.out | apply below_alloc | apply pw_below_drewN | apply below_drew1) | exact HB.out)) hb); clear HO194; clear HB; have HO194 := n0_; have HO198 := n1_; have HB := n2_; clear n0_ n1_ n2_; (try clear hb); (try clear hb2); (try clear hk); (try clear hi); (try clear ho0); (try simp only [errW_none, errW_some])))
          have n0_ := Aside0.mk (Kd.S_drew HO194.out)
          have n1_ := Aside0.mk (Kd.S_drew HO198.out)
          have n2_ := Aside0.mk (below_drew1 HB.out)
          clear HO194
          clear HO198
          clear HB
          have HO194 := n0_
          have HO198 := n1_
          have HB := n2_
          clear n0_ n1_ n2_
          obtain ⟨Ao36, co36, eo36⟩ := Kd.S_slice HO198.out
          (first | subst eo36 | (injection eo36 with f1_ f2_ f3_; have f4_ := f1_.symm; have f5_ := f3_.symm; clear f1_ f2_ f3_; subst f4_; subst f5_))
          refine start_ (n := 6) (S := fun w' => True) (ds := []) #[false, false, false, false, false, false] (by kernel_rfl) rfl rfl trivial (fun hHeld => ?_)
          generalize w34.drew = w35 at HO194 HO198 HB hHeld ⊢
          refine pure_ (i := 0) (N := some 59) (v := ?_) (a' := ?_) #[true, false, false, false, false, false] rfl rfl (by kernel_rfl) (fun _ _ _ h => h) (Or.inl ⟨by rfl, ?_⟩) ?_ ?_
          rotate_left
          · intro w'
            go_simp
            with_reducible rfl
          rotate_left
          · simp only [Act.put, List.setIfInBounds_toArray, List.set_cons_zero, List.set_cons_succ, i64_w, i32_w]
            rfl
          refine pure_ (i := 2) (N := some 61) (v := ?_) (a' := ?_) #[true, false, true, false, false, false] rfl rfl (by kernel_rfl) (fun _ _ _ h => h) (Or.inl ⟨by rfl, ?_⟩) ?_ ?_
          rotate_left
          · intro w'
            go_simp
            with_reducible rfl
          rotate_left
          · simp only [Act.put, List.setIfInBounds_toArray, List.set_cons_zero, List.set_cons_succ, i64_w, i32_w]
            rfl
          refine pure_ (i := 3) (N := some 62) (v := ?_) (a' := ?_) #[true, false, true, true, false, false] rfl rfl (by kernel_rfl) (fun _ _ _ h => h) (Or.inl ⟨by rfl, ?_⟩) ?_ ?_
          rotate_left
          · intro w'
            go_simp
            with_reducible rfl
          rotate_left
          · simp only [Act.put, List.setIfInBounds_toArray, List.set_cons_zero, List.set_cons_succ, i64_w, i32_w]
            rfl
          refine one_ (i := 1) (N := some 60) #[true, true, true, true, false, false] rfl rfl (by kernel_rfl) (by decide) (fun K hK => ?_)
          refine goes_ Tryd.func36 (by kernel_rfl) rfl #[.slice Ao36 t195.length co36] (by rfl) rfl rfl (by (try simp only [List.map_toArray, List.map_cons, List.map_nil]); first | done | rfl | (simp only [List.length_drop, List.length_take]; rfl)) ?_
          with_reducible refine (impl_rows.calls kj5 _ _ t195 t200 _ ?side1 ?side2 A25.out).mono ?_
          (case side1 => repeat (first | exact (Kd.S_reads' HO198.out).2.2 | (with_reducible refine Kd.C_alloc ?_ _) | (with_reducible refine Kd.C_drewN ?_ _) | (with_reducible refine Kd.C_drew ?_)))
          (case side2 => exact (Kd.S_reads' HO198.out).2.1)
          rintro e w37 ⟨v201, rfl, ho0, hb⟩
          refine ⟨_, rfl, ?_⟩
          have n0_ := Aside0.mk (Kd.S_elder' (by (with_reducible repeat (first | apply Kd.S_alloc | apply Kd.S_drewN | apply Kd.S_drew)); exact HO194.out) (Kd.S_base ho0) hb)
          have n1_ := Aside0.mk (Kd.S_elder' (by (with_reducible repeat (first | apply Kd.S_alloc | apply Kd.S_drewN | apply Kd.S_drew)); exact HO198.out) (Kd.S_base ho0) hb)
          have n2_ := Aside0.mk (Kd.S_lower (Kd.S_new' (Kd.S_new' ho0 (Kd.S_lt (by (with_reducible repeat (first | apply Kd.S_alloc | apply Kd.S_drewN | apply Kd.S_drew)); exact HO194.out))) (Kd.S_lt (by (with_reducible repeat (first | apply Kd.S_alloc | apply Kd.S_drewN | apply Kd.S_drew)); exact HO198.out))) (below_size (by repeat (first | (with_reducible first | exact HB.out | apply below_alloc | apply pw_below_drewN | apply below_drew1) | exact HB.out))))
          have n3_ := Aside0.mk (below_step (by repeat (first | (with_reducible first | exact HB.out | apply below_alloc | apply pw_below_drewN | apply below_drew1) | exact HB.out)) hb)
          clear HO194
          clear HO198
          clear HB
          have HO194 := n0_
          have HO198 := n1_
          have HO202 := n2_
          have HB := n3_
          clear n0_ n1_ n2_ n3_
          (try clear hb)
          (try clear hb2)
          (try clear hk)
          (try clear hi)
          (try clear ho0)
          refine hK.out _ _ trivial (fun hHeld => ?_)
          clear hK K
          refine norm_ (a' := ?_) ?_ ?_
          rotate_left
          · show Act.put _ (some 60) _ = _
            simp only [Act.put, List.setIfInBounds_toArray, List.set_cons_zero, List.set_cons_succ, i64_w, i32_w]
            rfl
          refine pure_ (i := 4) (N := some 10) (v := ?_) (a' := ?_) #[true, true, true, true, true, false] rfl rfl (by kernel_rfl) (fun _ _ _ h => h) (Or.inl ⟨by rfl, ?_⟩) ?_ ?_
          rotate_left
          · intro w'
            go_simp
            with_reducible rfl
          rotate_left
          · simp only [Act.put, List.setIfInBounds_toArray, List.set_cons_zero, List.set_cons_succ, i64_w, i32_w]
            rfl
          refine pure_ (i := 5) (N := some 11) (v := ?_) (a' := ?_) #[true, true, true, true, true, true] rfl rfl (by kernel_rfl) (fun _ _ _ h => h) (Or.inl ⟨by rfl, ?_⟩) ?_ ?_
          rotate_left
          · intro w'
            go_simp
            with_reducible rfl
          rotate_left
          · simp only [Act.put, List.setIfInBounds_toArray, List.set_cons_zero, List.set_cons_succ, i64_w, i32_w]
            rfl
          refine done_ (by kernel_rfl) ?_
          try go_wp2
          go_ret2
          exact ⟨_, by first | rfl | (simp [errW_none, errW_some] <;> rfl) | (simp [*, errW_none, errW_some] <;> rfl), by (with_reducible repeat (first | apply Kd.S_alloc | apply Kd.S_drewN | apply Kd.S_drew)); exact Kd.S_mono HO202.out (fun _ hk => trivial), by repeat (first | (with_reducible first | exact HB.out | apply below_alloc | apply pw_below_drewN | apply below_drew1) | exact HB.out)⟩

/-! ### spec_EqualMatrices: function 19 -/
mutual
def spec_EqualMatrices.l0 : Nat → List (List Int) → List (List Int) → Int → Int → Option (Bool)
  | 0, _, _, _, _ => none
  | k + 1, x0, x1, x13, x14 => if x14 < x13 then (if 0 ≤ x14 then (if x14 < (x0.length : Int) then (if x14 < (x1.length : Int) then (if ((rd_L1 x0 x14).length : Int) = ((rd_L1 x1 x14).length : Int) then (spec_EqualMatrices.l1 k x0 x1 x14 x13 x14 ((rd_L1 x0 x14).length : Int) 0) else (some false)) else (none)) else (none)) else (none)) else (some true)
def spec_EqualMatrices.l1 : Nat → List (List Int) → List (List Int) → Int → Int → Int → Int → Int → Option (Bool)
  | 0, _, _, _, _, _, _, _ => none
  | k + 1, x0, x1, x5, x13, x14, x32, x33 => if x33 < x32 then (if 0 ≤ x5 then (if x5 < (x0.length : Int) then (if 0 ≤ x33 then (if x33 < ((rd_L1 x0 x5).length : Int) then (if x5 < (x1.length : Int) then (if x33 < ((rd_L1 x1 x5).length : Int) then (if (rd (rd_L1 x0 x5) x33) = (rd (rd_L1 x1 x5) x33) then (spec_EqualMatrices.l1 k x0 x1 x5 x13 x14 x32 (wrap64 (x33 + 1))) else (some false)) else (none)) else (none)) else (none)) else (none)) else (none)) else (none)) else (spec_EqualMatrices.l0 k x0 x1 x13 (wrap64 (x14 + 1)))
end
def spec_EqualMatrices.f (k : Nat) (l0 : List (List Int)) (l1 : List (List Int)) : Option (Bool) := if (l0.length : Int) = (l1.length : Int) then (spec_EqualMatrices.l0 k l0 l1 (l0.length : Int) 0) else (some false)
theorem spec_EqualMatrices.mono_l : ∀ k, (∀ y0 y1 y2 y3, LeO (spec_EqualMatrices.l0 k y0 y1 y2 y3) (spec_EqualMatrices.l0 (k + 1) y0 y1 y2 y3)) ∧ (∀ y0 y1 y2 y3 y4 y5 y6, LeO (spec_EqualMatrices.l1 k y0 y1 y2 y3 y4 y5 y6) (spec_EqualMatrices.l1 (k + 1) y0 y1 y2 y3 y4 y5 y6))
  | 0 => ⟨fun _ _ _ _ r h => by simp [spec_EqualMatrices.l0] at h, fun _ _ _ _ _ _ _ r h => by simp [spec_EqualMatrices.l1] at h⟩
  | k + 1 => by
    obtain ⟨ih0, ih1⟩ := spec_EqualMatrices.mono_l k
    refine ⟨?_, ?_⟩
    · intro y0 y1 y2 y3
      unfold spec_EqualMatrices.l0
      repeat' first
      | (with_reducible exact ih0 _ _ _ _)
      | (with_reducible exact ih1 _ _ _ _ _ _ _)
      | (with_reducible exact LeO.refl _)
      | (with_reducible exact LeO.none _)
      | (with_reducible refine LeO.ite ?_ ?_)
      | (with_reducible refine LeO.bind ?_ (fun _ => ?_))
      | exact ih0 _ _ _ _
      | exact ih1 _ _ _ _ _ _ _
      | exact LeO.none _
      | refine LeO.ite ?_ ?_
      | refine LeO.bind ?_ (fun _ => ?_)
    · intro y0 y1 y2 y3 y4 y5 y6
      unfold spec_EqualMatrices.l1
      repeat' first
      | (with_reducible exact ih0 _ _ _ _)
      | (with_reducible exact ih1 _ _ _ _ _ _ _)
      | (with_reducible exact LeO.refl _)
      | (with_reducible exact LeO.none _)
      | (with_reducible refine LeO.ite ?_ ?_)
      | (with_reducible refine LeO.bind ?_ (fun _ => ?_))
      | exact ih0 _ _ _ _
      | exact ih1 _ _ _ _ _ _ _
      | exact LeO.none _
      | refine LeO.ite ?_ ?_
      | refine LeO.bind ?_ (fun _ => ?_)
theorem spec_EqualMatrices.mono : ∀ a0 a1 k, LeO (spec_EqualMatrices.f k a0 a1) (spec_EqualMatrices.f (k + 1) a0 a1) := by
  intro a0 a1 k
  obtain ⟨ih0, ih1⟩ := spec_EqualMatrices.mono_l k
  unfold spec_EqualMatrices.f
  repeat' first
      | (with_reducible exact ih0 _ _ _ _)
      | (with_reducible exact ih1 _ _ _ _ _ _ _)
      | (with_reducible exact LeO.refl _)
      | (with_reducible exact LeO.none _)
      | (with_reducible refine LeO.ite ?_ ?_)
      | (with_reducible refine LeO.bind ?_ (fun _ => ?_))
      | exact ih0 _ _ _ _
      | exact ih1 _ _ _ _ _ _ _
      | exact LeO.none _
      | refine LeO.ite ?_ ?_
      | refine LeO.bind ?_ (fun _ => ?_)
set_option maxHeartbeats 8000000 in
set_option maxRecDepth 100000 in
theorem spec_EqualMatrices.calls (k : Nat) (A0 : Option Addr) (c0 : Nat) (l0 : List (List Int)) (A1 : Option Addr) (c1 : Nat) (l1 : List (List Int)) (r : Bool) (w : World) (hr0 : Kd.C (Kd.slice 5 (Kd.int .u8)) w A0 l0.length l0) (hc0 : l0.length ≤ c0) (hr1 : Kd.C (Kd.slice 5 (Kd.int .u8)) w A1 l1.length l1) (hc1 : l1.length ≤ c1) (h : spec_EqualMatrices.f k l0 l1 = some r) :
    Calls Tryd.prog 19 #[.slice A0 l0.length c0, .slice A1 l1.length c1] w fun e w' => e = .returned (.bool r) ∧ Drawn0 w w' := by
  have HR0 := Aside0.mk hr0
  have HC0 := Aside0.mk hc0
  clear hr0 hc0
  have HR1 := Aside0.mk hr1
  have HC1 := Aside0.mk hc1
  clear hr1 hc1
  have H : (if (l0.length : Int) = (l1.length : Int) then (spec_EqualMatrices.l0 k l0 l1 (l0.length : Int) 0) else (some false)) = some r := h
  clear h
  by_cases c3 : (l0.length : Int) = (l1.length : Int)
  · rw [if_pos c3] at H
    have c3b0 : ((l0.length : Int) == (l1.length : Int)) = true := beq_iff_eq.mpr c3
    have c3b1 : ((l0.length : Int) != (l1.length : Int)) = false := bne_eq_false_iff_eq.mpr c3
    have c3b2 : (l0.length == l1.length) = true := by first | simpa using c3 | (simp at c3 ⊢; omega)
    clear c3
    have H' := Aside0.mk H
    clear H
    go_enter Tryd.func19, Tryd.ntmps19
    go_wp2
    repeat (go_quiet (fail); try go_wp2)
    try simp only [Act.put, List.setIfInBounds_toArray, List.set_cons_zero, List.set_cons_succ]
    go_loopg [14] k (fun kq v14 w' => ∃ (x14_1 : Int), v14 = .int .i64 x14_1 ∧ Aside0 (spec_EqualMatrices.l0 kq l0 l1 (l0.length : Int) x14_1 = some r) ∧ Aside0 (kq ≤ k) ∧ Drawn0 w w')
    case atStart => exact ⟨(0), (by first | rfl | (simp; done) | (simp [*]; done)), H', ⟨Nat.le_refl _⟩, by repeat (first | exact Drawn0.refl _ | apply Drawn0.step)⟩
    case round =>
      clear H'
      try clear c1
      try clear p2
      try clear c3
      try clear c3b0
      try clear c3b1
      try clear c3b2
      obtain ⟨x14_1, rfl, HA, HK1, ⟨m1, rfl⟩⟩ := hrel
      cases gk with
      | zero => exact absurd HA.out (by simp [spec_EqualMatrices.l0])
      | succ k1 =>
        have H := HA.out
        clear HA
        simp only [spec_EqualMatrices.l0] at H
        by_cases c4 : x14_1 < (l0.length : Int)
        · rw [if_pos c4] at H
          have c4b0 : decide (x14_1 < (l0.length : Int)) = true := decide_eq_true c4
          clear c4
          by_cases c5 : 0 ≤ x14_1
          · rw [if_pos c5] at H
            have c5b0 : decide (0 ≤ x14_1) = true := decide_eq_true c5
            clear c5
            by_cases c6 : x14_1 < (l0.length : Int)
            · rw [if_pos c6] at H
              have c6b0 : decide (x14_1 < (l0.length : Int)) = true := decide_eq_true c6
              clear c6
              by_cases c7 : x14_1 < (l1.length : Int)
              · rw [if_pos c7] at H
                have c7b0 : decide (x14_1 < (l1.length : Int)) = true := decide_eq_true c7
                clear c7
                by_cases c8 : ((rd_L1 l0 x14_1).length : Int) = ((rd_L1 l1 x14_1).length : Int)
                · rw [if_pos c8] at H
                  have c8b0 : (((rd_L1 l0 x14_1).length : Int) == ((rd_L1 l1 x14_1).length : Int)) = true := beq_iff_eq.mpr c8
                  have c8b1 : (((rd_L1 l0 x14_1).length : Int) != ((rd_L1 l1 x14_1).length : Int)) = false := bne_eq_false_iff_eq.mpr c8
                  have c8b2 : ((rd_L1 l0 x14_1).length == (rd_L1 l1 x14_1).length) = true := by first | simpa using c8 | (simp at c8 ⊢; omega)
                  clear c8
                  have H' := Aside0.mk H
                  clear H
                  have p204 : 0 ≤ (x14_1 : Int) := of_decide_eq_true (by first | (with_reducible assumption) | assumption)
                  have q204 : x14_1 < (l0.length : Int) := of_decide_eq_true (by first | (with_reducible assumption) | assumption)
                  obtain ⟨ad204, A204_0, c204_0, e204, hx204_0, hl204_0, hi204_0⟩ := at_L1 HR0.out x14_1 p204 q204
                  cases e204
                  have HR204_0 := Aside0.mk hi204_0
                  have HC204_0 := Aside0.mk hl204_0
                  clear hi204_0 hl204_0
                  replace p204 := eq_true p204
                  replace q204 := eq_true q204
                  have p205 : 0 ≤ (x14_1 : Int) := of_decide_eq_true (by first | (with_reducible assumption) | assumption)
                  have q205 : x14_1 < (l1.length : Int) := of_decide_eq_true (by first | (with_reducible assumption) | assumption)
                  obtain ⟨ad205, A205_0, c205_0, e205, hx205_0, hl205_0, hi205_0⟩ := at_L1 HR1.out x14_1 p205 q205
                  cases e205
                  have HR205_0 := Aside0.mk hi205_0
                  have HC205_0 := Aside0.mk hl205_0
                  clear hi205_0 hl205_0
                  replace p205 := eq_true p205
                  replace q205 := eq_true q205
                  have p206 : 0 ≤ (x14_1 : Int) := of_decide_eq_true (by first | (with_reducible assumption) | assumption)
                  have q206 : x14_1 < (l0.length : Int) := of_decide_eq_true (by first | (with_reducible assumption) | assumption)
                  obtain ⟨ad206, A206_0, c206_0, e206, hx206_0, hl206_0, hi206_0⟩ := at_L1 HR0.out x14_1 p206 q206
                  obtain rfl : ad204 = ad206 := (by injection e206)
                  have HR206_0 := Aside0.mk hi206_0
                  have HC206_0 := Aside0.mk hl206_0
                  clear hi206_0 hl206_0
                  replace p206 := eq_true p206
                  replace q206 := eq_true q206
                  have ea_ := Option.some.inj (hx204_0.symm.trans hx206_0)
                  injection ea_ with ea_ en_ ec_
                  subst ea_
                  subst ec_
                  clear en_
                  go_wp2
                  repeat (go_quiet (fail); try go_wp2)
                  try simp only [Act.put, List.setIfInBounds_toArray, List.set_cons_zero, List.set_cons_succ]
                  go_loopg [33] k1 (fun kq v33 w' => ∃ (x33_2 : Int), v33 = .int .i64 x33_2 ∧ Aside0 (spec_EqualMatrices.l1 kq l0 l1 x14_1 (l0.length : Int) x14_1 ((rd_L1 l0 x14_1).length : Int) x33_2 = some r) ∧ Aside0 (kq ≤ k1) ∧ Drawn0 w w')
                  case atStart => exact ⟨(0), (by first | rfl | (simp; done) | (simp [*]; done)), H', ⟨Nat.le_refl _⟩, by repeat (first | exact Drawn0.refl _ | apply Drawn0.step)⟩
                  case round =>
                    clear H'
                    try clear c1
                    try clear c2
                    try clear p2
                    try clear q2
                    try clear hx2
                    try clear c3
                    try clear c3b0
                    try clear c3b1
                    try clear c3b2
                    try clear c4
                    try clear c4b0
                    try clear c5
                    try clear c5b0
                    try clear c6
                    try clear c6b0
                    try clear c7
                    try clear c7b0
                    try clear c8
                    try clear c8b0
                    try clear c8b1
                    try clear c8b2
                    try clear hx204_0
                    try clear hx205_0
                    try clear hx206_0
                    try clear p2
                    try clear p204
                    try clear p205
                    try clear p206
                    try clear q204
                    try clear q205
                    try clear q206
                    obtain ⟨x33_2, rfl, HA, HK2, ⟨m2, rfl⟩⟩ := hrel
                    cases gk with
                    | zero => exact absurd HA.out (by simp [spec_EqualMatrices.l1])
                    | succ k2 =>
                      have H := HA.out
                      clear HA
                      simp only [spec_EqualMatrices.l1] at H
                      by_cases c9 : x33_2 < ((rd_L1 l0 x14_1).length : Int)
                      · rw [if_pos c9] at H
                        have c9b0 : decide (x33_2 < ((rd_L1 l0 x14_1).length : Int)) = true := decide_eq_true c9
                        clear c9
                        by_cases c10 : 0 ≤ x14_1
                        · rw [if_pos c10] at H
                          have c10b0 : decide (0 ≤ x14_1) = true := decide_eq_true c10
                          clear c10
                          by_cases c11 : x14_1 < (l0.length : Int)
                          · rw [if_pos c11] at H
                            have c11b0 : decide (x14_1 < (l0.length : Int)) = true := decide_eq_true c11
                            clear c11
                            by_cases c12 : 0 ≤ x33_2
                            · rw [if_pos c12] at H
                              have c12b0 : decide (0 ≤ x33_2) = true := decide_eq_true c12
                              clear c12
                              by_cases c13 : x33_2 < ((rd_L1 l0 x14_1).length : Int)
                              · rw [if_pos c13] at H
                                have c13b0 : decide (x33_2 < ((rd_L1 l0 x14_1).length : Int)) = true := decide_eq_true c13
                                clear c13
                                by_cases c14 : x14_1 < (l1.length : Int)
                                · rw [if_pos c14] at H
                                  have c14b0 : decide (x14_1 < (l1.length : Int)) = true := decide_eq_true c14
                                  clear c14
                                  by_cases c15 : x33_2 < ((rd_L1 l1 x14_1).length : Int)
                                  · rw [if_pos c15] at H
                                    have c15b0 : decide (x33_2 < ((rd_L1 l1 x14_1).length : Int)) = true := decide_eq_true c15
                                    clear c15
                                    by_cases c16 : (rd (rd_L1 l0 x14_1) x33_2) = (rd (rd_L1 l1 x14_1) x33_2)
                                    · rw [if_pos c16] at H
                                      have c16b0 : ((rd (rd_L1 l0 x14_1) x33_2) == (rd (rd_L1 l1 x14_1) x33_2)) = true := beq_iff_eq.mpr c16
                                      have c16b1 : ((rd (rd_L1 l0 x14_1) x33_2) != (rd (rd_L1 l1 x14_1) x33_2)) = false := bne_eq_false_iff_eq.mpr c16
                                      clear c16
                                      have H' := Aside0.mk H
                                      clear H
                                      have p207 : 0 ≤ (x14_1 : Int) := of_decide_eq_true (by first | (with_reducible assumption) | assumption)
                                      have q207 : x14_1 < (l0.length : Int) := of_decide_eq_true (by first | (with_reducible assumption) | assumption)
                                      obtain ⟨ad207, A207_0, c207_0, e207, hx207_0, hl207_0, hi207_0⟩ := at_L1 HR0.out x14_1 p207 q207
                                      obtain rfl : ad204 = ad207 := (by injection e207)
                                      have HR207_0 := Aside0.mk hi207_0
                                      have HC207_0 := Aside0.mk hl207_0
                                      clear hi207_0 hl207_0
                                      replace p207 := eq_true p207
                                      replace q207 := eq_true q207
                                      have p208 : 0 ≤ (x33_2 : Int) := of_decide_eq_true (by first | (with_reducible assumption) | assumption)
                                      have q208 : x33_2 < ((rd_L1 l0 x14_1).length : Int) := of_decide_eq_true (by first | (with_reducible assumption) | assumption)
                                      obtain ⟨ad208, e208, hx208_0⟩ := Kd.at_int HR207_0.out x33_2 p208 q208
                                      cases e208
                                      replace p208 := eq_true p208
                                      replace q208 := eq_true q208
                                      have p209 : 0 ≤ (x14_1 : Int) := of_decide_eq_true (by first | (with_reducible assumption) | assumption)
                                      have q209 : x14_1 < (l1.length : Int) := of_decide_eq_true (by first | (with_reducible assumption) | assumption)
                                      obtain ⟨ad209, A209_0, c209_0, e209, hx209_0, hl209_0, hi209_0⟩ := at_L1 HR1.out x14_1 p209 q209
                                      obtain rfl : ad205 = ad209 := (by injection e209)
                                      have HR209_0 := Aside0.mk hi209_0
                                      have HC209_0 := Aside0.mk hl209_0
                                      clear hi209_0 hl209_0
                                      replace p209 := eq_true p209
                                      replace q209 := eq_true q209
                                      have p210 : 0 ≤ (x33_2 : Int) := of_decide_eq_true (by first | (with_reducible assumption) | assumption)
                                      have q210 : x33_2 < ((rd_L1 l1 x14_1).length : Int) := of_decide_eq_true (by first | (with_reducible assumption) | assumption)
                                      obtain ⟨ad210, e210, hx210_0⟩ := Kd.at_int HR209_0.out x33_2 p210 q210
                                      cases e210
                                      replace p210 := eq_true p210
                                      replace q210 := eq_true q210
                                      go_wp2
                                      repeat (go_quiet (fail); try go_wp2)
                                      go_roundg k2
                                      case measure => have := HK1.out; have := HK2.out; omega
                                      case rel => exact ⟨(wrap64 (x33_2 + 1)), (by first | rfl | (simp; done) | (simp [*]; done)), H', ⟨by have := HK1.out; have := HK2.out; omega⟩, by repeat (first | exact Drawn0.refl _ | apply Drawn0.step)⟩
                                    · rw [if_neg c16] at H
                                      have c16b0 : ((rd (rd_L1 l0 x14_1) x33_2) == (rd (rd_L1 l1 x14_1) x33_2)) = false := beq_eq_false_iff_ne.mpr c16
                                      have c16b1 : ((rd (rd_L1 l0 x14_1) x33_2) != (rd (rd_L1 l1 x14_1) x33_2)) = true := bne_iff_ne.mpr c16
                                      obtain rfl := Option.some.inj H
                                      have p207 : 0 ≤ (x14_1 : Int) := of_decide_eq_true (by first | (with_reducible assumption) | assumption)
                                      have q207 : x14_1 < (l0.length : Int) := of_decide_eq_true (by first | (with_reducible assumption) | assumption)
                                      obtain ⟨ad207, A207_0, c207_0, e207, hx207_0, hl207_0, hi207_0⟩ := at_L1 HR0.out x14_1 p207 q207
                                      obtain rfl : ad204 = ad207 := (by injection e207)
                                      have HR207_0 := Aside0.mk hi207_0
                                      have HC207_0 := Aside0.mk hl207_0
                                      clear hi207_0 hl207_0
                                      replace p207 := eq_true p207
                                      replace q207 := eq_true q207
                                      have p208 : 0 ≤ (x33_2 : Int) := of_decide_eq_true (by first | (with_reducible assumption) | assumption)
                                      have q208 : x33_2 < ((rd_L1 l0 x14_1).length : Int) := of_decide_eq_true (by first | (with_reducible assumption) | assumption)
                                      obtain ⟨ad208, e208, hx208_0⟩ := Kd.at_int HR207_0.out x33_2 p208 q208
                                      cases e208
                                      replace p208 := eq_true p208
                                      replace q208 := eq_true q208
                                      have p209 : 0 ≤ (x14_1 : Int) := of_decide_eq_true (by first | (with_reducible assumption) | assumption)
                                      have q209 : x14_1 < (l1.length : Int) := of_decide_eq_true (by first | (with_reducible assumption) | assumption)
                                      obtain ⟨ad209, A209_0, c209_0, e209, hx209_0, hl209_0, hi209_0⟩ := at_L1 HR1.out x14_1 p209 q209
                                      obtain rfl : ad205 = ad209 := (by injection e209)
                                      have HR209_0 := Aside0.mk hi209_0
                                      have HC209_0 := Aside0.mk hl209_0
                                      clear hi209_0 hl209_0
                                      replace p209 := eq_true p209
                                      replace q209 := eq_true q209
                                      have p210 : 0 ≤ (x33_2 : Int) := of_decide_eq_true (by first | (with_reducible assumption) | assumption)
                                      have q210 : x33_2 < ((rd_L1 l1 x14_1).length : Int) := of_decide_eq_true (by first | (with_reducible assumption) | assumption)
                                      obtain ⟨ad210, e210, hx210_0⟩ := Kd.at_int HR209_0.out x33_2 p210 q210
                                      cases e210
                                      replace p210 := eq_true p210
                                      replace q210 := eq_true q210
                                      go_wp2
                                      repeat (go_quiet (fail); try go_wp2)
                                      go_ret
                                      exact ⟨by first | rfl | (simp; done) | (simp [*]; done), by repeat (first | exact Drawn0.refl _ | apply Drawn0.step)⟩
                                  · rw [if_neg c15] at H
                                    exact absurd H (by simp)
                                · rw [if_neg c14] at H
                                  exact absurd H (by simp)
                              · rw [if_neg c13] at H
                                exact absurd H (by simp)
                            · rw [if_neg c12] at H
                              exact absurd H (by simp)
                          · rw [if_neg c11] at H
                            exact absurd H (by simp)
                        · rw [if_neg c10] at H
                          exact absurd H (by simp)
                      · rw [if_neg c9] at H
                        have c9b0 : decide (x33_2 < ((rd_L1 l0 x14_1).length : Int)) = false := decide_eq_false c9
                        clear c9
                        have H' := Aside0.mk H
                        clear H
                        go_wp2
                        repeat (go_quiet (fail); try go_wp2)
                        go_roundg k2
                        case measure => have := HK1.out; have := HK2.out; omega
                        case rel => exact ⟨(wrap64 (x14_1 + 1)), (by first | rfl | (simp; done) | (simp [*]; done)), H', ⟨by have := HK1.out; have := HK2.out; omega⟩, by repeat (first | exact Drawn0.refl _ | apply Drawn0.step)⟩
                · rw [if_neg c8] at H
                  have c8b0 : (((rd_L1 l0 x14_1).length : Int) == ((rd_L1 l1 x14_1).length : Int)) = false := beq_eq_false_iff_ne.mpr c8
                  have c8b1 : (((rd_L1 l0 x14_1).length : Int) != ((rd_L1 l1 x14_1).length : Int)) = true := bne_iff_ne.mpr c8
                  have c8b2 : ((rd_L1 l0 x14_1).length == (rd_L1 l1 x14_1).length) = false := by first | simpa using c8 | (simp at c8 ⊢; omega)
                  obtain rfl := Option.some.inj H
                  have p204 : 0 ≤ (x14_1 : Int) := of_decide_eq_true (by first | (with_reducible assumption) | assumption)
                  have q204 : x14_1 < (l0.length : Int) := of_decide_eq_true (by first | (with_reducible assumption) | assumption)
                  obtain ⟨ad204, A204_0, c204_0, e204, hx204_0, hl204_0, hi204_0⟩ := at_L1 HR0.out x14_1 p204 q204
                  cases e204
                  have HR204_0 := Aside0.mk hi204_0
                  have HC204_0 := Aside0.mk hl204_0
                  clear hi204_0 hl204_0
                  replace p204 := eq_true p204
                  replace q204 := eq_true q204
                  have p205 : 0 ≤ (x14_1 : Int) := of_decide_eq_true (by first | (with_reducible assumption) | assumption)
                  have q205 : x14_1 < (l1.length : Int) := of_decide_eq_true (by first | (with_reducible assumption) | assumption)
                  obtain ⟨ad205, A205_0, c205_0, e205, hx205_0, hl205_0, hi205_0⟩ := at_L1 HR1.out x14_1 p205 q205
                  cases e205
                  have HR205_0 := Aside0.mk hi205_0
                  have HC205_0 := Aside0.mk hl205_0
                  clear hi205_0 hl205_0
                  replace p205 := eq_true p205
                  replace q205 := eq_true q205
                  go_wp2
                  repeat (go_quiet (fail); try go_wp2)
                  go_ret
                  exact ⟨by first | rfl | (simp; done) | (simp [*]; done), by repeat (first | exact Drawn0.refl _ | apply Drawn0.step)⟩
              · rw [if_neg c7] at H
                exact absurd H (by simp)
            · rw [if_neg c6] at H
              exact absurd H (by simp)
          · rw [if_neg c5] at H
            exact absurd H (by simp)
        · rw [if_neg c4] at H
          have c4b0 : decide (x14_1 < (l0.length : Int)) = false := decide_eq_false c4
          clear c4
          obtain rfl := Option.some.inj H
          go_wp2
          repeat (go_quiet (fail); try go_wp2)
          go_ret
          exact ⟨by first | rfl | (simp; done) | (simp [*]; done), by repeat (first | exact Drawn0.refl _ | apply Drawn0.step)⟩
  · rw [if_neg c3] at H
    have c3b0 : ((l0.length : Int) == (l1.length : Int)) = false := beq_eq_false_iff_ne.mpr c3
    have c3b1 : ((l0.length : Int) != (l1.length : Int)) = true := bne_iff_ne.mpr c3
    have c3b2 : (l0.length == l1.length) = false := by first | simpa using c3 | (simp at c3 ⊢; omega)
    obtain rfl := Option.some.inj H
    go_enter Tryd.func19, Tryd.ntmps19
    go_wp2
    repeat (go_quiet (fail); try go_wp2)
    go_ret
    exact ⟨by first | rfl | (simp; done) | (simp [*]; done), by repeat (first | exact Drawn0.refl _ | apply Drawn0.step)⟩

end Go.Proofs.YtpeikjnkbjabpaaDoor.X
