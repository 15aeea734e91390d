import Derived.Test.YtijldedhcjkhiaaDoorSTT0
namespace Go.Proofs.YtijldedhcjkhiaaDoor.T
open Go.RowKit Go.Proofs.YtijldedhcjkhiaaDoorW.PrintWords Go.Proofs.YtijldedhcjkhiaaDoorW.PrintLast Go.Proofs.YtijldedhcjkhiaaDoorW.PrintMore
attribute [local go_sem] max2_int min2_int max_two min_two max_three min_three max_four min_four   -- for this text's walks alone
set_option linter.unusedVariables false
set_option linter.unusedSimpArgs false
def impl_texts.l0 : Nat → List (List Int) → List (List Int) → Int → Int → Option ((List (List Int)))
  | 0, _, _, _, _ => none
  | k + 1, x3, x6, x7, x8 => if x8 < x7 then (if 0 ≤ x8 then (if x8 < (x6.length : Int) then ((some (([] : List Int) : List Int)).bind fun y127 => (if y127.length + (rd_L1 x6 x8).length < 140737488355328 then (if x3.length < 5864062014805 then (impl_texts.l0 k (x3 ++ [(y127 ++ (rd_L1 x6 x8))]) x6 x7 (wrap64 (x8 + 1))) else (none)) else (none))) else (none)) else (none)) else (some x3)
def impl_texts.f (k : Nat) (l0 : List (List Int)) : Option ((List (List Int))) := impl_texts.l0 k ([] : List (List Int)) l0 (l0.length : Int) 0
theorem impl_texts.mono_l : ∀ k, (∀ y0 y1 y2 y3, LeO (impl_texts.l0 k y0 y1 y2 y3) (impl_texts.l0 (k + 1) y0 y1 y2 y3))
  | 0 => fun _ _ _ _ r h => by simp [impl_texts.l0] at h
  | k + 1 => by
    have ih0 := impl_texts.mono_l k
    · intro y0 y1 y2 y3
      unfold impl_texts.l0
      repeat' first
      | (with_reducible exact ih0 _ _ _ _)
      | (with_reducible exact LeO.refl _)
      | (with_reducible exact LeO.none _)
      | (with_reducible refine LeO.ite ?_ ?_)
      | (with_reducible refine LeO.bind ?_ (fun _ => ?_))
      | exact ih0 _ _ _ _
      | exact LeO.none _
      | refine LeO.ite ?_ ?_
      | refine LeO.bind ?_ (fun _ => ?_)
theorem impl_texts.mono : ∀ a0 k, LeO (impl_texts.f k a0) (impl_texts.f (k + 1) a0) := by
  intro a0 k
  have ih0 := impl_texts.mono_l k
  unfold impl_texts.f
  repeat' first
      | (with_reducible exact ih0 _ _ _ _)
      | (with_reducible exact LeO.refl _)
      | (with_reducible exact LeO.none _)
      | (with_reducible refine LeO.ite ?_ ?_)
      | (with_reducible refine LeO.bind ?_ (fun _ => ?_))
      | exact ih0 _ _ _ _
      | exact LeO.none _
      | refine LeO.ite ?_ ?_
      | refine LeO.bind ?_ (fun _ => ?_)
set_option maxHeartbeats 8000000 in
set_option maxRecDepth 100000 in
theorem impl_texts.calls (k : Nat) (A0 : Option Addr) (c0 : Nat) (l0 : List (List Int)) (r : List (List Int)) (w : World) (hr0 : Kd.C (Kd.slice 5 (Kd.int .u8)) w A0 l0.length l0) (hc0 : l0.length ≤ c0) (h : impl_texts.f k l0 = some r) :
    Calls Tryd.prog 70 #[.slice A0 l0.length c0] w fun e w' => ∃ v0_ : Value, e = .returned (v0_) ∧ Kd.S (Kd.slice 5 (Kd.int .u8)) 42 w' w.heap.size (fun _ => True) v0_ r ∧ Below w.heap.size w w' := by
  have HR0 := Aside0.mk hr0
  have HC0 := Aside0.mk hc0
  clear hr0 hc0
  have HB := Aside0.mk (Below.refl w.heap.size w)
  have H : (impl_texts.l0 k ([] : List (List Int)) l0 (l0.length : Int) 0) = some r := h
  clear h
  have H' := Aside0.mk H
  clear H
  go_enter Tryd.func70, Tryd.ntmps70
  go_wp2
  try simp only [Act.put, List.setIfInBounds_toArray, List.set_cons_zero, List.set_cons_succ]
  go_loopg [3, 8] k (fun kq v3 v8 w' => ∃ (x3_1 : List (List Int)) (x8_1 : Int), v8 = .int .i64 x8_1 ∧ Aside0 (impl_texts.l0 kq x3_1 l0 (l0.length : Int) x8_1 = some r) ∧ Aside0 (kq ≤ k) ∧ Aside0 (Kd.S (Kd.slice 5 (Kd.int .u8)) 42 w' w.heap.size (fun _ => True) v3 x3_1) ∧ Aside0 (Below w.heap.size w w'))
  case atStart => exact ⟨(([] : List (List Int))), (0), (by first | rfl | (simp; done) | (simp [*]; done)), H', ⟨Nat.le_refl _⟩, ⟨by first | exact Kd.S_nil _ _ _ _ _ | exact Kd.N_nil _ _ _ _ _ | exact Kd.V_nil _ _ _ _ _ | exact Kd.Q_nil _ _ _ _ _ | exact Kd.R_nil _ _ _ _ _⟩, ⟨by repeat (first | (with_reducible first | exact HB.out | apply below_alloc | apply pw_below_drewN | apply below_drew1) | exact HB.out)⟩⟩
  case round =>
    clear H'
    obtain ⟨x3_1, x8_1, rfl, HA, HK1, HO_3, HB⟩ := hrel
    cases gk with
    | zero => exact absurd HA.out (by simp [impl_texts.l0])
    | succ k1 =>
      have H := HA.out
      clear HA
      simp only [impl_texts.l0] at H
      by_cases c2 : x8_1 < (l0.length : Int)
      · rw [if_pos c2] at H
        have c2b0 : decide (x8_1 < (l0.length : Int)) = true := decide_eq_true c2
        clear c2
        by_cases c3 : 0 ≤ x8_1
        · rw [if_pos c3] at H
          have c3b0 : decide (0 ≤ x8_1) = true := decide_eq_true c3
          clear c3
          by_cases c4 : x8_1 < (l0.length : Int)
          · rw [if_pos c4] at H
            have c4b0 : decide (x8_1 < (l0.length : Int)) = true := decide_eq_true c4
            clear c4
            obtain ⟨y127, hy127⟩ : ∃ y_ : List Int, y_ = (([] : List Int)) := ⟨_, rfl⟩
            replace H : (if y127.length + (rd_L1 l0 x8_1).length < 140737488355328 then (if x3_1.length < 5864062014805 then (impl_texts.l0 k1 (x3_1 ++ [(y127 ++ (rd_L1 l0 x8_1))]) l0 (l0.length : Int) (wrap64 (x8_1 + 1))) else (none)) else (none)) = some r := by first | (rw [hy127]; with_reducible exact H) | (have H2_ := (Option.bind_some _ _).symm.trans H; rw [hy127]; with_reducible exact H2_) | (have H2_ := (Option.bind_some _ _).symm.trans H; with_reducible exact H2_) | with_reducible exact H | (rw [hy127]; exact H) | exact H
            have Ny127 := Aside0.mk hy127
            clear hy127
            by_cases c5 : y127.length + (rd_L1 l0 x8_1).length < 140737488355328
            · rw [if_pos c5] at H
              have LMc5 := Aside0.mk c5
              clear c5
              obtain ⟨y130, hy130⟩ : ∃ y_ : List Int, y_ = (y127 ++ (rd_L1 l0 x8_1)) := ⟨_, rfl⟩
              replace H : (if x3_1.length < 5864062014805 then (impl_texts.l0 k1 (x3_1 ++ [y130]) l0 (l0.length : Int) (wrap64 (x8_1 + 1))) else (none)) = some r := by first | (rw [hy130]; with_reducible exact H) | (have H2_ := (Option.bind_some _ _).symm.trans H; rw [hy130]; with_reducible exact H2_) | (have H2_ := (Option.bind_some _ _).symm.trans H; with_reducible exact H2_) | with_reducible exact H | (rw [hy130]; exact H) | exact H
              have Ny130 := Aside0.mk hy130
              clear hy130
              by_cases c6 : x3_1.length < 5864062014805
              · rw [if_pos c6] at H
                have LMc6 := Aside0.mk c6
                clear c6
                obtain ⟨y133, hy133⟩ : ∃ y_ : List (List Int), y_ = (x3_1 ++ [y130]) := ⟨_, rfl⟩
                replace H : (impl_texts.l0 k1 y133 l0 (l0.length : Int) (wrap64 (x8_1 + 1))) = some r := by first | (rw [hy133]; with_reducible exact H) | (have H2_ := (Option.bind_some _ _).symm.trans H; rw [hy133]; with_reducible exact H2_) | (have H2_ := (Option.bind_some _ _).symm.trans H; with_reducible exact H2_) | with_reducible exact H | (rw [hy133]; exact H) | exact H
                have Ny133 := Aside0.mk hy133
                clear hy133
                have H' := Aside0.mk H
                clear H
                have p126 : 0 ≤ (x8_1 : Int) := of_decide_eq_true (by first | (with_reducible assumption) | assumption)
                have q126 : x8_1 < (l0.length : Int) := of_decide_eq_true (by first | (with_reducible assumption) | assumption)
                obtain ⟨ad126, A126_0, c126_0, e126, hx126_0, hl126_0, hi126_0⟩ := at_L1 HR0.out x8_1 p126 q126
                cases e126
                (try replace hx126_0 := (HB.out.cell (World.block_lt_of_cell? w _ hx126_0)).trans hx126_0)
                have HR126_0 := Aside0.mk hi126_0
                have HC126_0 := Aside0.mk hl126_0
                clear hi126_0 hl126_0
                replace p126 := eq_true p126
                replace q126 := eq_true q126
                go_wp2_with (first | ((with_reducible refine gate_dst (N := 13) rfl ?_); refine Kd.R_lit (Kd.int .u8) _ 5 ?hg (N := 13) ?hd (xs := ([] : List Int)) (inner := []) (ok := fun _ => True) (okp := fun _ => True) ?hr ?hp (fun _ hk => hk) trivial (Below.refl _ _) (Nat.le_refl _) (by simp) ?_; (case hd => rfl); (case hg => rfl); (case hr => first | (go_simp; done) | (go_simp; rfl)); (case hp => exact (Reps.none _ _)); intro v128 w7 ho8 hb hg_ hnew_; clear hg_ hnew_; (first | rw [← Ny127.out] at ho8 | (simp only [Int.reduceToNat] at ho8; rw [← Ny127.out] at ho8)); have n0_ := Aside0.mk (Kd.S_elder' (by (with_reducible repeat (first | apply Kd.S_alloc | apply Kd.S_drewN | apply Kd.S_drew)); exact HO_3.out) (Kd.R_base ho8) hb); have n1_ := Aside0.mk (Kd.R_lower ho8 (below_size (by repeat (first | (with_reducible first | exact HB.out | apply below_alloc | apply pw_below_drewN | apply below_drew1) | exact HB.out)))); have n2_ := Aside0.mk (below_step (by repeat (first | (with_reducible first | exact HB.out | apply below_alloc | apply pw_below_drewN | apply below_drew1) | exact HB.out)) hb); clear HO_3; clear HB; have HO_3 := n0_; have HO129 := n1_; have HB := n2_; clear n0_ n1_ n2_; clear hb ho8) | ((with_reducible refine gate_builtin (b := .append) (xs := #[.tmp 13, .tmp 14]) rfl ?_); at_builtin; refine Kd.R_append_rows (Kd.int .u8) (w0 := w) w.heap.size rfl (.tmp 13) (.tmp 14) 42 5 (.int .u8 0) 1 rfl Tryd.underlying42 info5 rfl (by decide) (by omega) v128 y127 (rd_L1 l0 x8_1) _ _ _ (fun _ => True) (fun _ => False) rfl rfl ?aO ?aR (fun _ _ h => h) (fun _ h => h.elim) ?aF ?aB ?aS ?aL ?_; (case aR => repeat (first | exact (Kd.C_below HR126_0.out HB.out) | (with_reducible refine Kd.C_alloc ?_ _) | (with_reducible refine Kd.C_drewN ?_ _) | (with_reducible refine Kd.C_drew ?_))); (case aB => exact (by repeat (first | (with_reducible first | exact HB.out | apply below_alloc | apply pw_below_drewN | apply below_drew1) | exact HB.out))); (case aF => exact (fun _ _ => trivial)); (case aO => exact (by (with_reducible repeat (first | apply Kd.R_alloc | apply Kd.R_drewN | apply Kd.R_drew)); exact HO129.out)); (case aS => exact (below_size (by repeat (first | (with_reducible first | exact HB.out | apply below_alloc | apply pw_below_drewN | apply below_drew1) | exact HB.out)))); (case aL => have := LMc5.out; omega); intro v131 w9 ho hb hg hat; rw [← Ny130.out] at ho; have n0_ := Aside0.mk (Kd.S_after (ok := (fun _ => True)) (by (with_reducible repeat (first | apply Kd.S_alloc | apply Kd.S_drewN | apply Kd.S_drew)); exact HO_3.out) hg hat); have n1_ := Aside0.mk (hb); have n2_ := Aside0.mk (ho); clear HO_3; clear HB; clear HO129; have HO_3 := n0_; have HB := n1_; have HO132 := n2_; clear n0_ n1_ n2_; clear ho hb hg hat; obtain ⟨Ao11, co11, eo11⟩ := Kd.R_slice HO132.out; subst eo11) | ((with_reducible refine gate_builtin (b := .append) (xs := #[.tmp 12, .tmp 16]) rfl ?_); at_builtin; refine Kd.S_append (Kd.slice 5 (Kd.int .u8)) (w0 := w) w.heap.size rfl (.tmp 12) (.tmp 16) 38 42 (.slice none 0 0) 24 rfl Tryd.underlying38 info42 rfl (by decide) (by omega) u3 x3_1 y130 [.slice Ao11 y130.length co11] (fun _ => True) (fun k_ => some k_ = (.slice Ao11 y130.length co11 : Value).ownBlock) rfl rfl ?aP (fun k_ hk_ => ((Kd.R_mono (ok' := fun k_ => ((fun _ => True)) k_ ∧ some k_ ≠ (u3 : Value).ownBlock) (Kd.R_apart' (HO132.out) (Kd.S_typed HO_3.out) (by decide)) (fun k_ hk => ⟨trivial, hk.2⟩))).1 k_ hk_.symm) ?aF ?aO ?aB ?aS ?aL ?_; (case aP => exact Kd.M_row (Kd.R_mono (Kd.R_tight rfl (Kd.R_mono (ok' := fun k_ => ((fun _ => True)) k_ ∧ some k_ ≠ (u3 : Value).ownBlock) (Kd.R_apart' (HO132.out) (Kd.S_typed HO_3.out) (by decide)) (fun k_ hk => ⟨trivial, hk.2⟩))) (fun _ h_ => h_))); (case aB => exact (by repeat (first | (with_reducible first | exact HB.out | apply below_alloc | apply pw_below_drewN | apply below_drew1) | exact HB.out))); (case aF => exact (fun _ _ => trivial)); (case aO => exact (by (with_reducible repeat (first | apply Kd.S_alloc | apply Kd.S_drewN | apply Kd.S_drew)); exact Kd.S_mono HO_3.out (fun k_ hk => ⟨trivial, fun e_ => hk.2 e_⟩))); (case aS => exact (below_size (by repeat (first | (with_reducible first | exact HB.out | apply below_alloc | apply pw_below_drewN | apply below_drew1) | exact HB.out)))); (case aL => have := LMc6.out; omega); intro v134 w10 ho hb hg hat; rw [← Ny133.out] at ho; have n0_ := Aside0.mk (hb); have n1_ := Aside0.mk (ho); clear HB; clear HO_3; clear HO132; have HB := n0_; have HO135 := n1_; clear n0_ n1_; clear ho hb hg hat))
                go_roundg k1
                case measure => have := HK1.out; omega
                case rel => exact ⟨(y133), (wrap64 (x8_1 + 1)), (by first | rfl | (simp; done) | (simp [*]; done)), H', ⟨by have := HK1.out; omega⟩, ⟨by (with_reducible repeat (first | apply Kd.S_alloc | apply Kd.S_drewN | apply Kd.S_drew)); exact HO135.out⟩, ⟨by repeat (first | (with_reducible first | exact HB.out | apply below_alloc | apply pw_below_drewN | apply below_drew1) | exact HB.out)⟩⟩
              · rw [if_neg c6] at H
                exact absurd H (by simp)
            · rw [if_neg c5] at H
              exact absurd H (by simp)
          · rw [if_neg c4] at H
            exact absurd H (by simp)
        · rw [if_neg c3] at H
          exact absurd H (by simp)
      · rw [if_neg c2] at H
        have c2b0 : decide (x8_1 < (l0.length : Int)) = false := decide_eq_false c2
        clear c2
        obtain rfl := Option.some.inj H
        go_wp2
        go_ret
        exact ⟨_, by first | rfl | (simp [errW_none, errW_some] <;> rfl) | (simp [*, errW_none, errW_some] <;> rfl), by (with_reducible repeat (first | apply Kd.S_alloc | apply Kd.S_drewN | apply Kd.S_drew)); exact HO_3.out, by repeat (first | (with_reducible first | exact HB.out | apply below_alloc | apply pw_below_drewN | apply below_drew1) | exact HB.out)⟩
def errors_New.f (a0 : ByteArray) : Option (Option Int) := some (some 0)
theorem errors_New.calls (a0 : ByteArray) (r : Option Int) (w : World) (h : errors_New.f a0 = some r) :
    Calls Tryd.prog 114 #[.string a0] w fun e w' => ∃ q0_ : Nat, e = .returned (errW q0_ r) ∧ Below w.heap.size w w' := by
  have hu := Tryd.underlying195
  obtain rfl := Option.some.inj h
  go_enter Tryd.func114, Tryd.ntmps114
  go_wp2_with (first | ((with_reducible refine gate_dst (N := 5) rfl ?_); refine box_event ?hg (N := 5) ?hd (cs := #[.string a0]) (t := 195) ?hr ?_; (case hd => rfl); (case hg => rfl); (case hr => first | (go_simp; done) | (go_simp; rfl)); intro gb hg w4 hbox hb))
  go_ret
  exact ⟨_, rfl, below_step (Below.refl _ _) hb⟩
def bits_OnesCount64.f (a0 : Int) : Option (Int) := some (Go.bits .and .i64 (wrap64 (IntKind.u64.wrap ((IntKind.u64.wrap ((IntKind.u64.wrap ((Go.bits .and .u64 (IntKind.u64.wrap (((IntKind.u64.wrap ((Go.bits .and .u64 ((IntKind.u64.wrap ((Go.bits .and .u64 (a0 / 2) 6148914691236517205) + (Go.bits .and .u64 a0 6148914691236517205))) / 4) 3689348814741910323) + (Go.bits .and .u64 (IntKind.u64.wrap ((Go.bits .and .u64 (a0 / 2) 6148914691236517205) + (Go.bits .and .u64 a0 6148914691236517205))) 3689348814741910323))) / 16) + (IntKind.u64.wrap ((Go.bits .and .u64 ((IntKind.u64.wrap ((Go.bits .and .u64 (a0 / 2) 6148914691236517205) + (Go.bits .and .u64 a0 6148914691236517205))) / 4) 3689348814741910323) + (Go.bits .and .u64 (IntKind.u64.wrap ((Go.bits .and .u64 (a0 / 2) 6148914691236517205) + (Go.bits .and .u64 a0 6148914691236517205))) 3689348814741910323))))) 1085102592571150095) + ((Go.bits .and .u64 (IntKind.u64.wrap (((IntKind.u64.wrap ((Go.bits .and .u64 ((IntKind.u64.wrap ((Go.bits .and .u64 (a0 / 2) 6148914691236517205) + (Go.bits .and .u64 a0 6148914691236517205))) / 4) 3689348814741910323) + (Go.bits .and .u64 (IntKind.u64.wrap ((Go.bits .and .u64 (a0 / 2) 6148914691236517205) + (Go.bits .and .u64 a0 6148914691236517205))) 3689348814741910323))) / 16) + (IntKind.u64.wrap ((Go.bits .and .u64 ((IntKind.u64.wrap ((Go.bits .and .u64 (a0 / 2) 6148914691236517205) + (Go.bits .and .u64 a0 6148914691236517205))) / 4) 3689348814741910323) + (Go.bits .and .u64 (IntKind.u64.wrap ((Go.bits .and .u64 (a0 / 2) 6148914691236517205) + (Go.bits .and .u64 a0 6148914691236517205))) 3689348814741910323))))) 1085102592571150095) / 256))) + ((IntKind.u64.wrap ((Go.bits .and .u64 (IntKind.u64.wrap (((IntKind.u64.wrap ((Go.bits .and .u64 ((IntKind.u64.wrap ((Go.bits .and .u64 (a0 / 2) 6148914691236517205) + (Go.bits .and .u64 a0 6148914691236517205))) / 4) 3689348814741910323) + (Go.bits .and .u64 (IntKind.u64.wrap ((Go.bits .and .u64 (a0 / 2) 6148914691236517205) + (Go.bits .and .u64 a0 6148914691236517205))) 3689348814741910323))) / 16) + (IntKind.u64.wrap ((Go.bits .and .u64 ((IntKind.u64.wrap ((Go.bits .and .u64 (a0 / 2) 6148914691236517205) + (Go.bits .and .u64 a0 6148914691236517205))) / 4) 3689348814741910323) + (Go.bits .and .u64 (IntKind.u64.wrap ((Go.bits .and .u64 (a0 / 2) 6148914691236517205) + (Go.bits .and .u64 a0 6148914691236517205))) 3689348814741910323))))) 1085102592571150095) + ((Go.bits .and .u64 (IntKind.u64.wrap (((IntKind.u64.wrap ((Go.bits .and .u64 ((IntKind.u64.wrap ((Go.bits .and .u64 (a0 / 2) 6148914691236517205) + (Go.bits .and .u64 a0 6148914691236517205))) / 4) 3689348814741910323) + (Go.bits .and .u64 (IntKind.u64.wrap ((Go.bits .and .u64 (a0 / 2) 6148914691236517205) + (Go.bits .and .u64 a0 6148914691236517205))) 3689348814741910323))) / 16) + (IntKind.u64.wrap ((Go.bits .and .u64 ((IntKind.u64.wrap ((Go.bits .and .u64 (a0 / 2) 6148914691236517205) + (Go.bits .and .u64 a0 6148914691236517205))) / 4) 3689348814741910323) + (Go.bits .and .u64 (IntKind.u64.wrap ((Go.bits .and .u64 (a0 / 2) 6148914691236517205) + (Go.bits .and .u64 a0 6148914691236517205))) 3689348814741910323))))) 1085102592571150095) / 256))) / 65536))) + ((IntKind.u64.wrap ((IntKind.u64.wrap ((Go.bits .and .u64 (IntKind.u64.wrap (((IntKind.u64.wrap ((Go.bits .and .u64 ((IntKind.u64.wrap ((Go.bits .and .u64 (a0 / 2) 6148914691236517205) + (Go.bits .and .u64 a0 6148914691236517205))) / 4) 3689348814741910323) + (Go.bits .and .u64 (IntKind.u64.wrap ((Go.bits .and .u64 (a0 / 2) 6148914691236517205) + (Go.bits .and .u64 a0 6148914691236517205))) 3689348814741910323))) / 16) + (IntKind.u64.wrap ((Go.bits .and .u64 ((IntKind.u64.wrap ((Go.bits .and .u64 (a0 / 2) 6148914691236517205) + (Go.bits .and .u64 a0 6148914691236517205))) / 4) 3689348814741910323) + (Go.bits .and .u64 (IntKind.u64.wrap ((Go.bits .and .u64 (a0 / 2) 6148914691236517205) + (Go.bits .and .u64 a0 6148914691236517205))) 3689348814741910323))))) 1085102592571150095) + ((Go.bits .and .u64 (IntKind.u64.wrap (((IntKind.u64.wrap ((Go.bits .and .u64 ((IntKind.u64.wrap ((Go.bits .and .u64 (a0 / 2) 6148914691236517205) + (Go.bits .and .u64 a0 6148914691236517205))) / 4) 3689348814741910323) + (Go.bits .and .u64 (IntKind.u64.wrap ((Go.bits .and .u64 (a0 / 2) 6148914691236517205) + (Go.bits .and .u64 a0 6148914691236517205))) 3689348814741910323))) / 16) + (IntKind.u64.wrap ((Go.bits .and .u64 ((IntKind.u64.wrap ((Go.bits .and .u64 (a0 / 2) 6148914691236517205) + (Go.bits .and .u64 a0 6148914691236517205))) / 4) 3689348814741910323) + (Go.bits .and .u64 (IntKind.u64.wrap ((Go.bits .and .u64 (a0 / 2) 6148914691236517205) + (Go.bits .and .u64 a0 6148914691236517205))) 3689348814741910323))))) 1085102592571150095) / 256))) + ((IntKind.u64.wrap ((Go.bits .and .u64 (IntKind.u64.wrap (((IntKind.u64.wrap ((Go.bits .and .u64 ((IntKind.u64.wrap ((Go.bits .and .u64 (a0 / 2) 6148914691236517205) + (Go.bits .and .u64 a0 6148914691236517205))) / 4) 3689348814741910323) + (Go.bits .and .u64 (IntKind.u64.wrap ((Go.bits .and .u64 (a0 / 2) 6148914691236517205) + (Go.bits .and .u64 a0 6148914691236517205))) 3689348814741910323))) / 16) + (IntKind.u64.wrap ((Go.bits .and .u64 ((IntKind.u64.wrap ((Go.bits .and .u64 (a0 / 2) 6148914691236517205) + (Go.bits .and .u64 a0 6148914691236517205))) / 4) 3689348814741910323) + (Go.bits .and .u64 (IntKind.u64.wrap ((Go.bits .and .u64 (a0 / 2) 6148914691236517205) + (Go.bits .and .u64 a0 6148914691236517205))) 3689348814741910323))))) 1085102592571150095) + ((Go.bits .and .u64 (IntKind.u64.wrap (((IntKind.u64.wrap ((Go.bits .and .u64 ((IntKind.u64.wrap ((Go.bits .and .u64 (a0 / 2) 6148914691236517205) + (Go.bits .and .u64 a0 6148914691236517205))) / 4) 3689348814741910323) + (Go.bits .and .u64 (IntKind.u64.wrap ((Go.bits .and .u64 (a0 / 2) 6148914691236517205) + (Go.bits .and .u64 a0 6148914691236517205))) 3689348814741910323))) / 16) + (IntKind.u64.wrap ((Go.bits .and .u64 ((IntKind.u64.wrap ((Go.bits .and .u64 (a0 / 2) 6148914691236517205) + (Go.bits .and .u64 a0 6148914691236517205))) / 4) 3689348814741910323) + (Go.bits .and .u64 (IntKind.u64.wrap ((Go.bits .and .u64 (a0 / 2) 6148914691236517205) + (Go.bits .and .u64 a0 6148914691236517205))) 3689348814741910323))))) 1085102592571150095) / 256))) / 65536))) / 4294967296)))) 127)
set_option maxHeartbeats 8000000 in
set_option maxRecDepth 100000 in
theorem bits_OnesCount64.calls (a0 : Int) (r : Int) (w : World) (h : bits_OnesCount64.f a0 = some r) :
    Calls Tryd.prog 111 #[.int .u64 a0] w fun e w' => e = .returned (.int .i64 r) ∧ Drawn0 w w' := by
  have H : (some (Go.bits .and .i64 (wrap64 (IntKind.u64.wrap ((IntKind.u64.wrap ((IntKind.u64.wrap ((Go.bits .and .u64 (IntKind.u64.wrap (((IntKind.u64.wrap ((Go.bits .and .u64 ((IntKind.u64.wrap ((Go.bits .and .u64 (a0 / 2) 6148914691236517205) + (Go.bits .and .u64 a0 6148914691236517205))) / 4) 3689348814741910323) + (Go.bits .and .u64 (IntKind.u64.wrap ((Go.bits .and .u64 (a0 / 2) 6148914691236517205) + (Go.bits .and .u64 a0 6148914691236517205))) 3689348814741910323))) / 16) + (IntKind.u64.wrap ((Go.bits .and .u64 ((IntKind.u64.wrap ((Go.bits .and .u64 (a0 / 2) 6148914691236517205) + (Go.bits .and .u64 a0 6148914691236517205))) / 4) 3689348814741910323) + (Go.bits .and .u64 (IntKind.u64.wrap ((Go.bits .and .u64 (a0 / 2) 6148914691236517205) + (Go.bits .and .u64 a0 6148914691236517205))) 3689348814741910323))))) 1085102592571150095) + ((Go.bits .and .u64 (IntKind.u64.wrap (((IntKind.u64.wrap ((Go.bits .and .u64 ((IntKind.u64.wrap ((Go.bits .and .u64 (a0 / 2) 6148914691236517205) + (Go.bits .and .u64 a0 6148914691236517205))) / 4) 3689348814741910323) + (Go.bits .and .u64 (IntKind.u64.wrap ((Go.bits .and .u64 (a0 / 2) 6148914691236517205) + (Go.bits .and .u64 a0 6148914691236517205))) 3689348814741910323))) / 16) + (IntKind.u64.wrap ((Go.bits .and .u64 ((IntKind.u64.wrap ((Go.bits .and .u64 (a0 / 2) 6148914691236517205) + (Go.bits .and .u64 a0 6148914691236517205))) / 4) 3689348814741910323) + (Go.bits .and .u64 (IntKind.u64.wrap ((Go.bits .and .u64 (a0 / 2) 6148914691236517205) + (Go.bits .and .u64 a0 6148914691236517205))) 3689348814741910323))))) 1085102592571150095) / 256))) + ((IntKind.u64.wrap ((Go.bits .and .u64 (IntKind.u64.wrap (((IntKind.u64.wrap ((Go.bits .and .u64 ((IntKind.u64.wrap ((Go.bits .and .u64 (a0 / 2) 6148914691236517205) + (Go.bits .and .u64 a0 6148914691236517205))) / 4) 3689348814741910323) + (Go.bits .and .u64 (IntKind.u64.wrap ((Go.bits .and .u64 (a0 / 2) 6148914691236517205) + (Go.bits .and .u64 a0 6148914691236517205))) 3689348814741910323))) / 16) + (IntKind.u64.wrap ((Go.bits .and .u64 ((IntKind.u64.wrap ((Go.bits .and .u64 (a0 / 2) 6148914691236517205) + (Go.bits .and .u64 a0 6148914691236517205))) / 4) 3689348814741910323) + (Go.bits .and .u64 (IntKind.u64.wrap ((Go.bits .and .u64 (a0 / 2) 6148914691236517205) + (Go.bits .and .u64 a0 6148914691236517205))) 3689348814741910323))))) 1085102592571150095) + ((Go.bits .and .u64 (IntKind.u64.wrap (((IntKind.u64.wrap ((Go.bits .and .u64 ((IntKind.u64.wrap ((Go.bits .and .u64 (a0 / 2) 6148914691236517205) + (Go.bits .and .u64 a0 6148914691236517205))) / 4) 3689348814741910323) + (Go.bits .and .u64 (IntKind.u64.wrap ((Go.bits .and .u64 (a0 / 2) 6148914691236517205) + (Go.bits .and .u64 a0 6148914691236517205))) 3689348814741910323))) / 16) + (IntKind.u64.wrap ((Go.bits .and .u64 ((IntKind.u64.wrap ((Go.bits .and .u64 (a0 / 2) 6148914691236517205) + (Go.bits .and .u64 a0 6148914691236517205))) / 4) 3689348814741910323) + (Go.bits .and .u64 (IntKind.u64.wrap ((Go.bits .and .u64 (a0 / 2) 6148914691236517205) + (Go.bits .and .u64 a0 6148914691236517205))) 3689348814741910323))))) 1085102592571150095) / 256))) / 65536))) + ((IntKind.u64.wrap ((IntKind.u64.wrap ((Go.bits .and .u64 (IntKind.u64.wrap (((IntKind.u64.wrap ((Go.bits .and .u64 ((IntKind.u64.wrap ((Go.bits .and .u64 (a0 / 2) 6148914691236517205) + (Go.bits .and .u64 a0 6148914691236517205))) / 4) 3689348814741910323) + (Go.bits .and .u64 (IntKind.u64.wrap ((Go.bits .and .u64 (a0 / 2) 6148914691236517205) + (Go.bits .and .u64 a0 6148914691236517205))) 3689348814741910323))) / 16) + (IntKind.u64.wrap ((Go.bits .and .u64 ((IntKind.u64.wrap ((Go.bits .and .u64 (a0 / 2) 6148914691236517205) + (Go.bits .and .u64 a0 6148914691236517205))) / 4) 3689348814741910323) + (Go.bits .and .u64 (IntKind.u64.wrap ((Go.bits .and .u64 (a0 / 2) 6148914691236517205) + (Go.bits .and .u64 a0 6148914691236517205))) 3689348814741910323))))) 1085102592571150095) + ((Go.bits .and .u64 (IntKind.u64.wrap (((IntKind.u64.wrap ((Go.bits .and .u64 ((IntKind.u64.wrap ((Go.bits .and .u64 (a0 / 2) 6148914691236517205) + (Go.bits .and .u64 a0 6148914691236517205))) / 4) 3689348814741910323) + (Go.bits .and .u64 (IntKind.u64.wrap ((Go.bits .and .u64 (a0 / 2) 6148914691236517205) + (Go.bits .and .u64 a0 6148914691236517205))) 3689348814741910323))) / 16) + (IntKind.u64.wrap ((Go.bits .and .u64 ((IntKind.u64.wrap ((Go.bits .and .u64 (a0 / 2) 6148914691236517205) + (Go.bits .and .u64 a0 6148914691236517205))) / 4) 3689348814741910323) + (Go.bits .and .u64 (IntKind.u64.wrap ((Go.bits .and .u64 (a0 / 2) 6148914691236517205) + (Go.bits .and .u64 a0 6148914691236517205))) 3689348814741910323))))) 1085102592571150095) / 256))) + ((IntKind.u64.wrap ((Go.bits .and .u64 (IntKind.u64.wrap (((IntKind.u64.wrap ((Go.bits .and .u64 ((IntKind.u64.wrap ((Go.bits .and .u64 (a0 / 2) 6148914691236517205) + (Go.bits .and .u64 a0 6148914691236517205))) / 4) 3689348814741910323) + (Go.bits .and .u64 (IntKind.u64.wrap ((Go.bits .and .u64 (a0 / 2) 6148914691236517205) + (Go.bits .and .u64 a0 6148914691236517205))) 3689348814741910323))) / 16) + (IntKind.u64.wrap ((Go.bits .and .u64 ((IntKind.u64.wrap ((Go.bits .and .u64 (a0 / 2) 6148914691236517205) + (Go.bits .and .u64 a0 6148914691236517205))) / 4) 3689348814741910323) + (Go.bits .and .u64 (IntKind.u64.wrap ((Go.bits .and .u64 (a0 / 2) 6148914691236517205) + (Go.bits .and .u64 a0 6148914691236517205))) 3689348814741910323))))) 1085102592571150095) + ((Go.bits .and .u64 (IntKind.u64.wrap (((IntKind.u64.wrap ((Go.bits .and .u64 ((IntKind.u64.wrap ((Go.bits .and .u64 (a0 / 2) 6148914691236517205) + (Go.bits .and .u64 a0 6148914691236517205))) / 4) 3689348814741910323) + (Go.bits .and .u64 (IntKind.u64.wrap ((Go.bits .and .u64 (a0 / 2) 6148914691236517205) + (Go.bits .and .u64 a0 6148914691236517205))) 3689348814741910323))) / 16) + (IntKind.u64.wrap ((Go.bits .and .u64 ((IntKind.u64.wrap ((Go.bits .and .u64 (a0 / 2) 6148914691236517205) + (Go.bits .and .u64 a0 6148914691236517205))) / 4) 3689348814741910323) + (Go.bits .and .u64 (IntKind.u64.wrap ((Go.bits .and .u64 (a0 / 2) 6148914691236517205) + (Go.bits .and .u64 a0 6148914691236517205))) 3689348814741910323))))) 1085102592571150095) / 256))) / 65536))) / 4294967296)))) 127)) = some r := h
  clear h
  obtain rfl := Option.some.inj H
  go_enter Tryd.func111, Tryd.ntmps111
  go_wp2
  go_ret
  exact ⟨by first | rfl | (simp; done) | (simp [*]; done), by repeat (first | exact Drawn0.refl _ | apply Drawn0.step)⟩
def bits_Len64.f (a0 : Int) : Option (Int) := if 0 ≤ a0 then (if a0 ≤ 18446744073709551615 then (some ((Lib.bitLen a0.toNat : Nat) : Int)) else (none)) else (none)
theorem bits_Len64.w8 (c b : Nat) (h : b ≤ 8) (hc : c ≤ 56) : wrap64 ((c : Int) + wrap64 (b : Int)) = ((c + b : Nat) : Int) := by
  unfold wrap64
  omega
theorem bits_Len64.w0 (b : Nat) (h : b ≤ 8) : wrap64 (wrap64 (b : Int)) = (b : Int) := by
  unfold wrap64
  omega
theorem bits_Len64.fin56 (a0 : Int) (h0 : 0 ≤ a0) (h1 : a0 ≤ 18446744073709551615) (hA : 4294967296 ≤ a0) (hB : 65536 ≤ a0 / 4294967296) (hC : 256 ≤ a0 / 4294967296 / 65536) : 0 ≤ a0 / 4294967296 / 65536 / 256 ∧ a0 / 4294967296 / 65536 / 256 ≤ 255 ∧ wrap64 (56 + wrap64 (Lib.len8 (a0 / 4294967296 / 65536 / 256))) = ((Lib.bitLen a0.toNat : Nat) : Int) := by
  have p : 0 ≤ a0 / 4294967296 / 65536 / 256 := by omega
  have q : a0 / 4294967296 / 65536 / 256 ≤ 255 := by omega
  refine ⟨p, q, ?_⟩
  rw [Lib.len8_of (a0 / 4294967296 / 65536 / 256) p q]
  have e : (a0 / 4294967296 / 65536 / 256).toNat = a0.toNat / 72057594037927936 := by omega
  have l := Lib.bitLen_le8' (a0 / 4294967296 / 65536 / 256) p q
  have s := Lib.bitLen_shift56 a0.toNat (by omega) (by omega)
  rw [e] at l ⊢
  rw [s]
  exact bits_Len64.w8 56 _ l (by decide)
theorem bits_Len64.fin48 (a0 : Int) (h0 : 0 ≤ a0) (h1 : a0 ≤ 18446744073709551615) (hA : 4294967296 ≤ a0) (hB : 65536 ≤ a0 / 4294967296) (hC : 256 > a0 / 4294967296 / 65536) : 0 ≤ a0 / 4294967296 / 65536 ∧ a0 / 4294967296 / 65536 ≤ 255 ∧ wrap64 (48 + wrap64 (Lib.len8 (a0 / 4294967296 / 65536))) = ((Lib.bitLen a0.toNat : Nat) : Int) := by
  have p : 0 ≤ a0 / 4294967296 / 65536 := by omega
  have q : a0 / 4294967296 / 65536 ≤ 255 := by omega
  refine ⟨p, q, ?_⟩
  rw [Lib.len8_of (a0 / 4294967296 / 65536) p q]
  have e : (a0 / 4294967296 / 65536).toNat = a0.toNat / 281474976710656 := by omega
  have l := Lib.bitLen_le8' (a0 / 4294967296 / 65536) p q
  have s := Lib.bitLen_shift48 a0.toNat (by omega) (by omega)
  rw [e] at l ⊢
  rw [s]
  exact bits_Len64.w8 48 _ l (by decide)
theorem bits_Len64.fin40 (a0 : Int) (h0 : 0 ≤ a0) (h1 : a0 ≤ 18446744073709551615) (hA : 4294967296 ≤ a0) (hB : 65536 > a0 / 4294967296) (hC : 256 ≤ a0 / 4294967296) : 0 ≤ a0 / 4294967296 / 256 ∧ a0 / 4294967296 / 256 ≤ 255 ∧ wrap64 (40 + wrap64 (Lib.len8 (a0 / 4294967296 / 256))) = ((Lib.bitLen a0.toNat : Nat) : Int) := by
  have p : 0 ≤ a0 / 4294967296 / 256 := by omega
  have q : a0 / 4294967296 / 256 ≤ 255 := by omega
  refine ⟨p, q, ?_⟩
  rw [Lib.len8_of (a0 / 4294967296 / 256) p q]
  have e : (a0 / 4294967296 / 256).toNat = a0.toNat / 1099511627776 := by omega
  have l := Lib.bitLen_le8' (a0 / 4294967296 / 256) p q
  have s := Lib.bitLen_shift40 a0.toNat (by omega) (by omega)
  rw [e] at l ⊢
  rw [s]
  exact bits_Len64.w8 40 _ l (by decide)
theorem bits_Len64.fin32 (a0 : Int) (h0 : 0 ≤ a0) (h1 : a0 ≤ 18446744073709551615) (hA : 4294967296 ≤ a0) (hB : 65536 > a0 / 4294967296) (hC : 256 > a0 / 4294967296) : 0 ≤ a0 / 4294967296 ∧ a0 / 4294967296 ≤ 255 ∧ wrap64 (32 + wrap64 (Lib.len8 (a0 / 4294967296))) = ((Lib.bitLen a0.toNat : Nat) : Int) := by
  have p : 0 ≤ a0 / 4294967296 := by omega
  have q : a0 / 4294967296 ≤ 255 := by omega
  refine ⟨p, q, ?_⟩
  rw [Lib.len8_of (a0 / 4294967296) p q]
  have e : (a0 / 4294967296).toNat = a0.toNat / 4294967296 := by omega
  have l := Lib.bitLen_le8' (a0 / 4294967296) p q
  have s := Lib.bitLen_shift32 a0.toNat (by omega) (by omega)
  rw [e] at l ⊢
  rw [s]
  exact bits_Len64.w8 32 _ l (by decide)
theorem bits_Len64.fin24 (a0 : Int) (h0 : 0 ≤ a0) (h1 : a0 ≤ 18446744073709551615) (hA : 4294967296 > a0) (hB : 65536 ≤ a0) (hC : 256 ≤ a0 / 65536) : 0 ≤ a0 / 65536 / 256 ∧ a0 / 65536 / 256 ≤ 255 ∧ wrap64 (24 + wrap64 (Lib.len8 (a0 / 65536 / 256))) = ((Lib.bitLen a0.toNat : Nat) : Int) := by
  have p : 0 ≤ a0 / 65536 / 256 := by omega
  have q : a0 / 65536 / 256 ≤ 255 := by omega
  refine ⟨p, q, ?_⟩
  rw [Lib.len8_of (a0 / 65536 / 256) p q]
  have e : (a0 / 65536 / 256).toNat = a0.toNat / 16777216 := by omega
  have l := Lib.bitLen_le8' (a0 / 65536 / 256) p q
  have s := Lib.bitLen_shift24 a0.toNat (by omega) (by omega)
  rw [e] at l ⊢
  rw [s]
  exact bits_Len64.w8 24 _ l (by decide)
theorem bits_Len64.fin16 (a0 : Int) (h0 : 0 ≤ a0) (h1 : a0 ≤ 18446744073709551615) (hA : 4294967296 > a0) (hB : 65536 ≤ a0) (hC : 256 > a0 / 65536) : 0 ≤ a0 / 65536 ∧ a0 / 65536 ≤ 255 ∧ wrap64 (16 + wrap64 (Lib.len8 (a0 / 65536))) = ((Lib.bitLen a0.toNat : Nat) : Int) := by
  have p : 0 ≤ a0 / 65536 := by omega
  have q : a0 / 65536 ≤ 255 := by omega
  refine ⟨p, q, ?_⟩
  rw [Lib.len8_of (a0 / 65536) p q]
  have e : (a0 / 65536).toNat = a0.toNat / 65536 := by omega
  have l := Lib.bitLen_le8' (a0 / 65536) p q
  have s := Lib.bitLen_shift16 a0.toNat (by omega) (by omega)
  rw [e] at l ⊢
  rw [s]
  exact bits_Len64.w8 16 _ l (by decide)
theorem bits_Len64.fin8 (a0 : Int) (h0 : 0 ≤ a0) (h1 : a0 ≤ 18446744073709551615) (hA : 4294967296 > a0) (hB : 65536 > a0) (hC : 256 ≤ a0) : 0 ≤ a0 / 256 ∧ a0 / 256 ≤ 255 ∧ wrap64 (8 + wrap64 (Lib.len8 (a0 / 256))) = ((Lib.bitLen a0.toNat : Nat) : Int) := by
  have p : 0 ≤ a0 / 256 := by omega
  have q : a0 / 256 ≤ 255 := by omega
  refine ⟨p, q, ?_⟩
  rw [Lib.len8_of (a0 / 256) p q]
  have e : (a0 / 256).toNat = a0.toNat / 256 := by omega
  have l := Lib.bitLen_le8' (a0 / 256) p q
  have s := Lib.bitLen_shift8 a0.toNat (by omega) (by omega)
  rw [e] at l ⊢
  rw [s]
  exact bits_Len64.w8 8 _ l (by decide)
theorem bits_Len64.fin0 (a0 : Int) (h0 : 0 ≤ a0) (h1 : a0 ≤ 18446744073709551615) (hA : 4294967296 > a0) (hB : 65536 > a0) (hC : 256 > a0) : 0 ≤ a0 ∧ a0 ≤ 255 ∧ wrap64 (wrap64 (Lib.len8 (a0))) = ((Lib.bitLen a0.toNat : Nat) : Int) := by
  have p : 0 ≤ a0 := by omega
  have q : a0 ≤ 255 := by omega
  refine ⟨p, q, ?_⟩
  rw [Lib.len8_of (a0) p q]
  have e : (a0).toNat = a0.toNat := by omega
  have l := Lib.bitLen_le8' (a0) p q
  rw [e] at l ⊢
  exact bits_Len64.w0 _ l
set_option maxHeartbeats 8000000 in
set_option maxRecDepth 100000 in
theorem bits_Len64.calls (a0 : Int) (r : Int) (w : World) (h : bits_Len64.f a0 = some r) :
    Calls Tryd.prog 110 #[.int .u64 a0] w fun e w' => e = .returned (.int .i64 r) ∧ Drawn0 w w' := by
  have hh : (0 ≤ a0 ∧ a0 ≤ 18446744073709551615) ∧ r = ((Lib.bitLen a0.toNat : Nat) : Int) := by
    unfold bits_Len64.f at h
    by_cases h0 : 0 ≤ a0
    · rw [if_pos h0] at h
      by_cases h1 : a0 ≤ 18446744073709551615
      · rw [if_pos h1] at h
        exact ⟨⟨h0, h1⟩, (Option.some.inj h).symm⟩
      · rw [if_neg h1] at h
        exact absurd h (by simp)
    · rw [if_neg h0] at h
      exact absurd h (by simp)
  clear h
  obtain ⟨⟨h0, h1⟩, hr⟩ := hh
  subst hr
  by_cases hA : 4294967296 ≤ a0
  · by_cases hB : 65536 ≤ a0 / 4294967296
    · by_cases hC : 256 ≤ a0 / 4294967296 / 65536
      · obtain ⟨p, q, fin⟩ := bits_Len64.fin56 a0 h0 h1 hA hB hC
        have cA : decide (4294967296 ≤ a0) = true := decide_eq_true hA
        have cB : decide (65536 ≤ a0 / 4294967296) = true := decide_eq_true hB
        have cC : decide (256 ≤ a0 / 4294967296 / 65536) = true := decide_eq_true hC
        have FIN := Aside0.mk fin
        clear fin h0 h1 hA hB hC
        go_enter Tryd.func110, Tryd.ntmps110
        go_wp2
        go_ret
        exact ⟨congrArg Ending.returned (congrArg (Value.int IntKind.i64) FIN.out), Drawn0.refl _⟩
      · obtain ⟨p, q, fin⟩ := bits_Len64.fin48 a0 h0 h1 hA hB (Int.not_le.mp hC)
        have cA : decide (4294967296 ≤ a0) = true := decide_eq_true hA
        have cB : decide (65536 ≤ a0 / 4294967296) = true := decide_eq_true hB
        have cC : decide (256 ≤ a0 / 4294967296 / 65536) = false := decide_eq_false hC
        have FIN := Aside0.mk fin
        clear fin h0 h1 hA hB hC
        go_enter Tryd.func110, Tryd.ntmps110
        go_wp2
        go_ret
        exact ⟨congrArg Ending.returned (congrArg (Value.int IntKind.i64) FIN.out), Drawn0.refl _⟩
    · by_cases hC : 256 ≤ a0 / 4294967296
      · obtain ⟨p, q, fin⟩ := bits_Len64.fin40 a0 h0 h1 hA (Int.not_le.mp hB) hC
        have cA : decide (4294967296 ≤ a0) = true := decide_eq_true hA
        have cB : decide (65536 ≤ a0 / 4294967296) = false := decide_eq_false hB
        have cC : decide (256 ≤ a0 / 4294967296) = true := decide_eq_true hC
        have FIN := Aside0.mk fin
        clear fin h0 h1 hA hB hC
        go_enter Tryd.func110, Tryd.ntmps110
        go_wp2
        go_ret
        exact ⟨congrArg Ending.returned (congrArg (Value.int IntKind.i64) FIN.out), Drawn0.refl _⟩
      · obtain ⟨p, q, fin⟩ := bits_Len64.fin32 a0 h0 h1 hA (Int.not_le.mp hB) (Int.not_le.mp hC)
        have cA : decide (4294967296 ≤ a0) = true := decide_eq_true hA
        have cB : decide (65536 ≤ a0 / 4294967296) = false := decide_eq_false hB
        have cC : decide (256 ≤ a0 / 4294967296) = false := decide_eq_false hC
        have FIN := Aside0.mk fin
        clear fin h0 h1 hA hB hC
        go_enter Tryd.func110, Tryd.ntmps110
        go_wp2
        go_ret
        exact ⟨congrArg Ending.returned (congrArg (Value.int IntKind.i64) FIN.out), Drawn0.refl _⟩
  · by_cases hB : 65536 ≤ a0
    · by_cases hC : 256 ≤ a0 / 65536
      · obtain ⟨p, q, fin⟩ := bits_Len64.fin24 a0 h0 h1 (Int.not_le.mp hA) hB hC
        have cA : decide (4294967296 ≤ a0) = false := decide_eq_false hA
        have cB : decide (65536 ≤ a0) = true := decide_eq_true hB
        have cC : decide (256 ≤ a0 / 65536) = true := decide_eq_true hC
        have FIN := Aside0.mk fin
        clear fin h0 h1 hA hB hC
        go_enter Tryd.func110, Tryd.ntmps110
        go_wp2
        go_ret
        exact ⟨congrArg Ending.returned (congrArg (Value.int IntKind.i64) FIN.out), Drawn0.refl _⟩
      · obtain ⟨p, q, fin⟩ := bits_Len64.fin16 a0 h0 h1 (Int.not_le.mp hA) hB (Int.not_le.mp hC)
        have cA : decide (4294967296 ≤ a0) = false := decide_eq_false hA
        have cB : decide (65536 ≤ a0) = true := decide_eq_true hB
        have cC : decide (256 ≤ a0 / 65536) = false := decide_eq_false hC
        have FIN := Aside0.mk fin
        clear fin h0 h1 hA hB hC
        go_enter Tryd.func110, Tryd.ntmps110
        go_wp2
        go_ret
        exact ⟨congrArg Ending.returned (congrArg (Value.int IntKind.i64) FIN.out), Drawn0.refl _⟩
    · by_cases hC : 256 ≤ a0
      · obtain ⟨p, q, fin⟩ := bits_Len64.fin8 a0 h0 h1 (Int.not_le.mp hA) (Int.not_le.mp hB) hC
        have cA : decide (4294967296 ≤ a0) = false := decide_eq_false hA
        have cB : decide (65536 ≤ a0) = false := decide_eq_false hB
        have cC : decide (256 ≤ a0) = true := decide_eq_true hC
        have FIN := Aside0.mk fin
        clear fin h0 h1 hA hB hC
        go_enter Tryd.func110, Tryd.ntmps110
        go_wp2
        go_ret
        exact ⟨congrArg Ending.returned (congrArg (Value.int IntKind.i64) FIN.out), Drawn0.refl _⟩
      · obtain ⟨p, q, fin⟩ := bits_Len64.fin0 a0 h0 h1 (Int.not_le.mp hA) (Int.not_le.mp hB) (Int.not_le.mp hC)
        have cA : decide (4294967296 ≤ a0) = false := decide_eq_false hA
        have cB : decide (65536 ≤ a0) = false := decide_eq_false hB
        have cC : decide (256 ≤ a0) = false := decide_eq_false hC
        have FIN := Aside0.mk fin
        clear fin h0 h1 hA hB hC
        go_enter Tryd.func110, Tryd.ntmps110
        go_wp2
        go_ret
        exact ⟨congrArg Ending.returned (congrArg (Value.int IntKind.i64) FIN.out), Drawn0.refl _⟩
def proof_innerProofSize.f (a0 : Int) (a1 : Int) : Option (Int) := (bits_Len64.f (Go.bits .xor .u64 a0 (IntKind.u64.wrap (a1 - 1)))).bind fun t136 => (some t136)
set_option maxHeartbeats 8000000 in
set_option maxRecDepth 100000 in
theorem proof_innerProofSize.calls (a0 : Int) (a1 : Int) (r : Int) (w : World) (h : proof_innerProofSize.f a0 a1 = some r) :
    Calls Tryd.prog 131 #[.int .u64 a0, .int .u64 a1] w fun e w' => e = .returned (.int .i64 r) ∧ Drawn0 w w' := by
  have H : ((bits_Len64.f (Go.bits .xor .u64 a0 (IntKind.u64.wrap (a1 - 1)))).bind fun t136 => (some t136)) = some r := h
  clear h
  replace H := Option.bind_eq_some_iff.mp H
  obtain ⟨t136, A30, H⟩ := H
  replace H : (some t136) = some r := H
  have A3 := Aside0.mk A30
  clear A30
  obtain rfl := Option.some.inj H
  go_enter Tryd.func131, Tryd.ntmps131
  go_wp2_with (first | ((with_reducible refine gate_callee (f := 110) rfl ?_); refine goesL_ (some 9) rfl rfl Tryd.func110 (by kernel_rfl) rfl #[.int .u64 (Go.bits .xor .u64 a0 (IntKind.u64.wrap (a1 - 1)))] rfl (by (try simp only [List.map_toArray, List.map_cons, List.map_nil]); first | done | rfl | (simp only [List.length_drop, List.length_take]; rfl)) ?_; (with_reducible refine (bits_Len64.calls (Go.bits .xor .u64 a0 (IntKind.u64.wrap (a1 - 1))) t136 _ A3.out).mono ?_); rintro e w' ⟨rfl, ⟨nd, rfl⟩⟩; refine ⟨_, rfl, ?_⟩))
  go_ret
  exact ⟨by first | rfl | (simp; done) | (simp [*]; done), by repeat (first | exact Drawn0.refl _ | apply Drawn0.step)⟩
def proof_decompInclProof.f (a0 : Int) (a1 : Int) : Option (Int × Int) := (proof_innerProofSize.f a0 a1).bind fun t137 => (if 0 ≤ (IntKind.u64.wrap (t137)) then ((bits_OnesCount64.f (shr .u64 a0 (IntKind.u64.wrap (t137)))).bind fun t138 => (some (t137, t138))) else (none))
set_option maxHeartbeats 8000000 in
set_option maxRecDepth 100000 in
theorem proof_decompInclProof.calls (a0 : Int) (a1 : Int) (r1 : Int) (r2 : Int) (w : World) (h : proof_decompInclProof.f a0 a1 = some (r1, r2)) :
    Calls Tryd.prog 117 #[.int .u64 a0, .int .u64 a1] w fun e w' => e = .returned (.tuple #[.int .i64 r1, .int .i64 r2]) ∧ Drawn0 w w' := by
  have H : ((proof_innerProofSize.f a0 a1).bind fun t137 => (if 0 ≤ (IntKind.u64.wrap (t137)) then ((bits_OnesCount64.f (shr .u64 a0 (IntKind.u64.wrap (t137)))).bind fun t138 => (some (t137, t138))) else (none))) = some (r1, r2) := h
  clear h
  replace H := Option.bind_eq_some_iff.mp H
  obtain ⟨t137, A30, H⟩ := H
  replace H : (if 0 ≤ (IntKind.u64.wrap (t137)) then ((bits_OnesCount64.f (shr .u64 a0 (IntKind.u64.wrap (t137)))).bind fun t138 => (some (t137, t138))) else (none)) = some (r1, r2) := H
  have A3 := Aside0.mk A30
  clear A30
  obtain ⟨ji4, hji4⟩ : ∃ j_ : Int, (IntKind.u64.wrap (t137)) = j_ := ⟨_, rfl⟩
  replace H : (if 0 ≤ (ji4) then ((bits_OnesCount64.f (shr .u64 a0 (ji4))).bind fun t138 => (some (t137, t138))) else (none)) = some (r1, r2) := by first | (rw [hji4] at H; exact H) | (simp only [hji4] at H ⊢; exact H)
  (try rw [hji4] at A3)
  by_cases c5 : 0 ≤ (ji4)
  · rw [if_pos c5] at H
    have c5b0 := eq_true c5
    have c5b1 : decide (0 ≤ (ji4)) = true := decide_eq_true c5
    clear c5
    obtain ⟨ji6, hji6⟩ : ∃ j_ : Int, (shr .u64 a0 (ji4)) = j_ := ⟨_, rfl⟩
    replace H : ((bits_OnesCount64.f (ji6)).bind fun t138 => (some (t137, t138))) = some (r1, r2) := by first | (rw [hji6] at H; exact H) | (simp only [hji6] at H ⊢; exact H)
    (try rw [hji6] at A3)
    have hji6_ : (a0 / 2 ^ min (ji4).toNat 64) = ji6 := hji6
    have hji6z : (ji4) ≤ 64 → (a0 / 2 ^ (ji4).toNat) = ji6 := shr_small hji6
    replace H := Option.bind_eq_some_iff.mp H
    obtain ⟨t138, A70, H⟩ := H
    replace H : (some (t137, t138)) = some (r1, r2) := H
    have A7 := Aside0.mk A70
    clear A70
    simp only [Option.some.injEq, Prod.mk.injEq] at H
    obtain ⟨rfl, rfl⟩ := H
    go_enter Tryd.func117, Tryd.ntmps117
    go_wp2_with (first | ((with_reducible refine gate_callee (f := 131) rfl ?_); refine goesL_ (some 10) rfl rfl Tryd.func131 (by kernel_rfl) rfl #[.int .u64 a0, .int .u64 a1] rfl (by (try simp only [List.map_toArray, List.map_cons, List.map_nil]); first | done | rfl | (simp only [List.length_drop, List.length_take]; rfl)) ?_; (with_reducible refine (proof_innerProofSize.calls a0 a1 t137 _ A3.out).mono ?_); rintro e w' ⟨rfl, ⟨nd, rfl⟩⟩; refine ⟨_, rfl, ?_⟩) | ((with_reducible refine gate_callee (f := 111) rfl ?_); refine goesL_ (some 15) rfl rfl Tryd.func111 (by kernel_rfl) rfl #[.int .u64 ji6] rfl (by (try simp only [List.map_toArray, List.map_cons, List.map_nil]); first | done | (simp only [hji6]; rfl) | rfl | (simp only [List.length_drop, List.length_take]; rfl)) ?_; (with_reducible refine (bits_OnesCount64.calls ji6 t138 _ A7.out).mono ?_); rintro e w' ⟨rfl, ⟨nd, rfl⟩⟩; refine ⟨_, rfl, ?_⟩))
    go_ret2
    exact ⟨by first | rfl | (simp; done) | (simp only [← hji4, ← hji6] <;> (first | rfl | simp)) | (simp [*]; done), by repeat (first | exact Drawn0.refl _ | apply Drawn0.step)⟩
  · rw [if_neg c5] at H
    exact absurd H (by simp)
mutual
def impl_word.j0 : Nat → Int → Int → Bool → Option (List Int)
  | 0, _, _, _ => none
  | k + 1, x0, x1, x12 => if x12 = true then (impl_word.j1 k x0 8) else (impl_word.j1 k x0 x1)
def impl_word.j1 : Nat → Int → Int → Option (List Int)
  | 0, _, _ => none
  | k + 1, x0, x1 => if 0 ≤ x1 then (if (x1 : Int).toNat ≤ 281474976710656 then ((some (List.replicate (x1 : Int).toNat 0 : List Int)).bind fun y139 => (impl_word.l0 k x0 x1 y139 (y139.length : Int) 0)) else (none)) else (none)
def impl_word.l0 : Nat → Int → Int → List Int → Int → Int → Option (List Int)
  | 0, _, _, _, _, _ => none
  | k + 1, x0, x1, x5, x16, x17 => if x17 < x16 then (if 0 ≤ (wrap64 (8 * x17)) then (if 0 ≤ (wrap64 ((wrap64 (x1 - 1)) - x17)) then (if (wrap64 ((wrap64 (x1 - 1)) - x17)) < (x5.length : Int) then (impl_word.l0 k x0 x1 (x5.set ((wrap64 ((wrap64 (x1 - 1)) - x17)) : Int).toNat ((shr .u64 x0 (wrap64 (8 * x17))) % 256)) x16 (wrap64 (x17 + 1))) else (none)) else (none)) else (none)) else (some x5)
end
def impl_word.f (k : Nat) (a0 : Int) (a1 : Int) : Option (List Int) := if a1 < 1 then (impl_word.j0 k a0 a1 true) else (impl_word.j0 k a0 a1 (decide (a1 > 8)))
theorem impl_word.mono_l : ∀ k, (∀ y0 y1 y2, LeO (impl_word.j0 k y0 y1 y2) (impl_word.j0 (k + 1) y0 y1 y2)) ∧ (∀ y0 y1, LeO (impl_word.j1 k y0 y1) (impl_word.j1 (k + 1) y0 y1)) ∧ (∀ y0 y1 y2 y3 y4, LeO (impl_word.l0 k y0 y1 y2 y3 y4) (impl_word.l0 (k + 1) y0 y1 y2 y3 y4))
  | 0 => ⟨fun _ _ _ r h => by simp [impl_word.j0] at h, fun _ _ r h => by simp [impl_word.j1] at h, fun _ _ _ _ _ r h => by simp [impl_word.l0] at h⟩
  | k + 1 => by
    obtain ⟨ih0, ih1, ih2⟩ := impl_word.mono_l k
    refine ⟨?_, ?_, ?_⟩
    · intro y0 y1 y2
      unfold impl_word.j0
      repeat' first
      | (with_reducible exact ih0 _ _ _)
      | (with_reducible exact ih1 _ _)
      | (with_reducible exact ih2 _ _ _ _ _)
      | (with_reducible exact LeO.refl _)
      | (with_reducible exact LeO.none _)
      | (with_reducible refine LeO.ite ?_ ?_)
      | (with_reducible refine LeO.bind ?_ (fun _ => ?_))
      | exact ih0 _ _ _
      | exact ih1 _ _
      | exact ih2 _ _ _ _ _
      | exact LeO.none _
      | refine LeO.ite ?_ ?_
      | refine LeO.bind ?_ (fun _ => ?_)
    · intro y0 y1
      unfold impl_word.j1
      repeat' first
      | (with_reducible exact ih0 _ _ _)
      | (with_reducible exact ih1 _ _)
      | (with_reducible exact ih2 _ _ _ _ _)
      | (with_reducible exact LeO.refl _)
      | (with_reducible exact LeO.none _)
      | (with_reducible refine LeO.ite ?_ ?_)
      | (with_reducible refine LeO.bind ?_ (fun _ => ?_))
      | exact ih0 _ _ _
      | exact ih1 _ _
      | exact ih2 _ _ _ _ _
      | exact LeO.none _
      | refine LeO.ite ?_ ?_
      | refine LeO.bind ?_ (fun _ => ?_)
    · intro y0 y1 y2 y3 y4
      unfold impl_word.l0
      repeat' first
      | (with_reducible exact ih0 _ _ _)
      | (with_reducible exact ih1 _ _)
      | (with_reducible exact ih2 _ _ _ _ _)
      | (with_reducible exact LeO.refl _)
      | (with_reducible exact LeO.none _)
      | (with_reducible refine LeO.ite ?_ ?_)
      | (with_reducible refine LeO.bind ?_ (fun _ => ?_))
      | exact ih0 _ _ _
      | exact ih1 _ _
      | exact ih2 _ _ _ _ _
      | exact LeO.none _
      | refine LeO.ite ?_ ?_
      | refine LeO.bind ?_ (fun _ => ?_)
theorem impl_word.mono : ∀ a0 a1 k, LeO (impl_word.f k a0 a1) (impl_word.f (k + 1) a0 a1) := by
  intro a0 a1 k
  obtain ⟨ih0, ih1, ih2⟩ := impl_word.mono_l k
  unfold impl_word.f
  repeat' first
      | (with_reducible exact ih0 _ _ _)
      | (with_reducible exact ih1 _ _)
      | (with_reducible exact ih2 _ _ _ _ _)
      | (with_reducible exact LeO.refl _)
      | (with_reducible exact LeO.none _)
      | (with_reducible refine LeO.ite ?_ ?_)
      | (with_reducible refine LeO.bind ?_ (fun _ => ?_))
      | exact ih0 _ _ _
      | exact ih1 _ _
      | exact ih2 _ _ _ _ _
      | exact LeO.none _
      | refine LeO.ite ?_ ?_
      | refine LeO.bind ?_ (fun _ => ?_)
set_option maxHeartbeats 8000000 in
set_option maxRecDepth 100000 in
theorem impl_word.calls (k : Nat) (a0 : Int) (a1 : Int) (r : List Int) (w : World) (h : impl_word.f k a0 a1 = some r) :
    Calls Tryd.prog 112 #[.int .u64 a0, .int .i64 a1] w fun e w' => ∃ v0_ : Value, e = .returned (v0_) ∧ Kd.R (Kd.int .u8) 5 w' w.heap.size (fun _ => True) v0_ r ∧ Below w.heap.size w w' := by
  have HB := Aside0.mk (Below.refl w.heap.size w)
  have H : (if a1 < 1 then (impl_word.j0 k a0 a1 true) else (impl_word.j0 k a0 a1 (decide (a1 > 8)))) = some r := h
  clear h
  have HC3 := Aside0.mk H
  clear H
  go_enter Tryd.func112, Tryd.ntmps112
  go_upto_region 1 with (fail)
  go_cut [12] (fun v12 wc => ∃ (kq : Nat) (x12_2 : Bool), v12 = .bool x12_2 ∧ Aside0 (impl_word.j0 kq a0 a1 x12_2 = some r) ∧ Aside0 (kq ≤ k) ∧ Aside0 (Below w.heap.size w wc))
  case first =>
    have H := HC3.out
    clear HC3
    by_cases c4 : a1 < 1
    · rw [if_pos c4] at H
      have c4b0 : decide (a1 < 1) = true := decide_eq_true c4
      clear c4
      (first | rw [c4b0] | (simp only [i64_w, i32_w]; rw [c4b0]) | skip)
      have H' := Aside0.mk H
      clear H
      go_wp2
      go_meet
      case rel => exact ⟨_, (true), (by first | rfl | (simp; done) | (simp [*]; done)), H', ⟨by first | omega | exact Nat.le_refl _⟩, ⟨by repeat (first | (with_reducible first | exact HB.out | apply below_alloc | apply pw_below_drewN | apply below_drew1) | exact HB.out)⟩⟩
    · rw [if_neg c4] at H
      have c4b0 : decide (a1 < 1) = false := decide_eq_false c4
      clear c4
      (first | rw [c4b0] | (simp only [i64_w, i32_w]; rw [c4b0]) | skip)
      have H' := Aside0.mk H
      clear H
      go_wp2
      go_meet
      case rel => exact ⟨_, (decide (a1 > 8)), (by first | rfl | (simp; done) | (simp [*]; done)), H', ⟨by first | omega | exact Nat.le_refl _⟩, ⟨by repeat (first | (with_reducible first | exact HB.out | apply below_alloc | apply pw_below_drewN | apply below_drew1) | exact HB.out)⟩⟩
  case rest =>
    clear HC3
    try clear c1
    try clear p2
    try clear c4
    try clear c4b0
    obtain ⟨kq, x12_2, rfl, HA, HJ2, HB⟩ := hcut
    cases kq with
    | zero => exact absurd HA.out (by simp [impl_word.j0])
    | succ kj2 =>
      have H := HA.out
      clear HA
      simp only [impl_word.j0] at H
      have HC5 := Aside0.mk H
      clear H
      go_upto_if 12 with (fail)
      go_cut [1] (fun v1 wc => ∃ (kq : Nat) (x1_4 : Int), v1 = .int .i64 x1_4 ∧ Aside0 (impl_word.j1 kq a0 x1_4 = some r) ∧ Aside0 (kq ≤ kj2) ∧ Aside0 (Below w.heap.size w wc))
      case first =>
        have H := HC5.out
        clear HC5
        by_cases c6 : x12_2 = true
        · subst c6
          have H1 : (impl_word.j1 kj2 a0 8) = some r := by rw [if_pos rfl] at H; exact H
          clear H
          have H := H1
          clear H1
          have H' := Aside0.mk H
          clear H
          go_wp2
          go_meet
          case rel => exact ⟨_, (8), (by first | rfl | (simp; done) | (simp [*]; done)), H', ⟨by have := HJ2.out; first | omega | exact Nat.le_refl _⟩, ⟨by repeat (first | (with_reducible first | exact HB.out | apply below_alloc | apply pw_below_drewN | apply below_drew1) | exact HB.out)⟩⟩
        · replace c6 := Bool.eq_false_iff.mpr c6
          subst c6
          have H1 : (impl_word.j1 kj2 a0 a1) = some r := by rw [if_neg (show ¬ (false = true) by decide)] at H; exact H
          clear H
          have H := H1
          clear H1
          have H' := Aside0.mk H
          clear H
          go_wp2
          go_meet
          case rel => exact ⟨_, (a1), (by first | rfl | (simp; done) | (simp [*]; done)), H', ⟨by have := HJ2.out; first | omega | exact Nat.le_refl _⟩, ⟨by repeat (first | (with_reducible first | exact HB.out | apply below_alloc | apply pw_below_drewN | apply below_drew1) | exact HB.out)⟩⟩
      case rest =>
        clear HC5
        try clear c1
        try clear p2
        try clear c4
        try clear c4b0
        try clear c6
        try clear p2
        obtain ⟨kq, x1_4, rfl, HA, HJ4, HB⟩ := hcut
        cases kq with
        | zero => exact absurd HA.out (by simp [impl_word.j1])
        | succ kj4 =>
          have H := HA.out
          clear HA
          simp only [impl_word.j1] at H
          by_cases c7 : 0 ≤ x1_4
          · rw [if_pos c7] at H
            have c7b0 := eq_true c7
            have c7b1 : decide (0 ≤ x1_4) = true := decide_eq_true c7
            clear c7
            by_cases c8 : (x1_4 : Int).toNat ≤ 281474976710656
            · rw [if_pos c8] at H
              have c8b0 := eq_true c8
              have c8b1 : decide ((x1_4 : Int).toNat ≤ 281474976710656) = true := decide_eq_true c8
              clear c8
              obtain ⟨y139, hy139⟩ : ∃ y_ : List Int, y_ = (List.replicate (x1_4 : Int).toNat 0) := ⟨_, rfl⟩
              replace H : (impl_word.l0 kj4 a0 x1_4 y139 (y139.length : Int) 0) = some r := by first | (rw [hy139]; with_reducible exact H) | (have H2_ := (Option.bind_some _ _).symm.trans H; rw [hy139]; with_reducible exact H2_) | (have H2_ := (Option.bind_some _ _).symm.trans H; with_reducible exact H2_) | with_reducible exact H | (rw [hy139]; exact H) | exact H
              have Ny139 := Aside0.mk hy139
              clear hy139
              have H' := Aside0.mk H
              clear H
              go_wp2_with (first | ((with_reducible refine gate_dst (N := 14) rfl ?_); refine Kd.R_make (Kd.int .u8) _ 5 rfl (N := 14) rfl 42 _ _ rfl x1_4 rfl rfl Tryd.underlying42 (.int .u8 0) 1 info5 rfl (by decide) (by omega) 0 (ok := fun _ => True) (okp := fun _ => True) rfl (fun _ hk => hk) trivial (of_decide_eq_true (by first | (with_reducible assumption) | assumption)) (Nat.le_trans (Nat.mul_le_mul_right _ (of_decide_eq_true (by first | (with_reducible assumption) | assumption) : x1_4.toNat ≤ 281474976710656)) (by omega)) (Below.refl _ _) (Nat.le_refl _) ?_; intro v140 w9 ho10 hb hg_ hnew_; clear hg_ hnew_; (first | rw [← Ny139.out] at ho10 | (simp only [Int.reduceToNat] at ho10; rw [← Ny139.out] at ho10)); have n0_ := Aside0.mk (Kd.R_lower ho10 (below_size (by repeat (first | (with_reducible first | exact HB.out | apply below_alloc | apply pw_below_drewN | apply below_drew1) | exact HB.out)))); have n1_ := Aside0.mk (below_step (by repeat (first | (with_reducible first | exact HB.out | apply below_alloc | apply pw_below_drewN | apply below_drew1) | exact HB.out)) hb); clear HB; have HO141 := n0_; have HB := n1_; clear n0_ n1_; clear hb ho10; obtain ⟨Ao11, co11, eo11⟩ := Kd.R_slice HO141.out; subst eo11))
              try simp only [Act.put, List.setIfInBounds_toArray, List.set_cons_zero, List.set_cons_succ]
              go_loopg [17] kj4 (fun kq v17 w' => ∃ (x5_3 : List Int) (x17_3 : Int), v17 = .int .i64 x17_3 ∧ Aside0 (impl_word.l0 kq a0 x1_4 x5_3 (y139.length : Int) x17_3 = some r) ∧ Aside0 (kq ≤ kj4) ∧ Aside0 (Kd.R (Kd.int .u8) 5 w' w.heap.size (fun _ => True) (.slice Ao11 y139.length co11) x5_3) ∧ Aside0 (Below w.heap.size w w'))
              case atStart => exact ⟨(y139), (0), (by first | rfl | (simp; done) | (simp [*]; done)), H', ⟨Nat.le_refl _⟩, ⟨by (with_reducible repeat (first | apply Kd.R_alloc | apply Kd.R_drewN | apply Kd.R_drew)); exact HO141.out⟩, ⟨by repeat (first | (with_reducible first | exact HB.out | apply below_alloc | apply pw_below_drewN | apply below_drew1) | exact HB.out)⟩⟩
              case round =>
                clear H'
                try clear c1
                try clear p2
                try clear c4
                try clear c4b0
                try clear c6
                try clear c7
                try clear c7b0
                try clear c7b1
                try clear c8
                try clear c8b0
                try clear c8b1
                try clear c11
                try clear p2
                obtain ⟨x5_3, x17_3, rfl, HA, HK3, HO_5, HB⟩ := hrel
                have hl5_3 := (Kd.R_reads' HO_5.out).1
                rw [hl5_3] at HO_5
                (try simp only [hl5_3])
                cases gk with
                | zero => exact absurd HA.out (by simp [impl_word.l0])
                | succ k3 =>
                  have H := HA.out
                  clear HA
                  simp only [impl_word.l0] at H
                  by_cases c12 : x17_3 < (y139.length : Int)
                  · rw [if_pos c12] at H
                    have c12b0 : decide (x17_3 < (y139.length : Int)) = true := decide_eq_true c12
                    (try simp only [hl5_3] at c12b0); (try simp only [hl5_3] at c12b0)
                    clear c12
                    obtain ⟨ji13, hji13⟩ : ∃ j_ : Int, (wrap64 (8 * x17_3)) = j_ := ⟨_, rfl⟩
                    replace H : (if 0 ≤ (ji13) then (if 0 ≤ (wrap64 ((wrap64 (x1_4 - 1)) - x17_3)) then (if (wrap64 ((wrap64 (x1_4 - 1)) - x17_3)) < (x5_3.length : Int) then (impl_word.l0 k3 a0 x1_4 (x5_3.set ((wrap64 ((wrap64 (x1_4 - 1)) - x17_3)) : Int).toNat ((shr .u64 a0 (ji13)) % 256)) (y139.length : Int) (wrap64 (x17_3 + 1))) else (none)) else (none)) else (none)) = some r := by first | (rw [hji13] at H; exact H) | (simp only [hji13] at H ⊢; exact H)
                    have hji13w : (IntKind.i64.wrap (8 * x17_3)) = ji13 := (i64_w _).trans hji13
                    by_cases c14 : 0 ≤ (ji13)
                    · rw [if_pos c14] at H
                      have c14b0 := eq_true c14
                      have c14b1 : decide (0 ≤ (ji13)) = true := decide_eq_true c14
                      clear c14
                      obtain ⟨ji15, hji15⟩ : ∃ j_ : Int, (shr .u64 a0 (ji13)) = j_ := ⟨_, rfl⟩
                      replace H : (if 0 ≤ (wrap64 ((wrap64 (x1_4 - 1)) - x17_3)) then (if (wrap64 ((wrap64 (x1_4 - 1)) - x17_3)) < (x5_3.length : Int) then (impl_word.l0 k3 a0 x1_4 (x5_3.set ((wrap64 ((wrap64 (x1_4 - 1)) - x17_3)) : Int).toNat ((ji15) % 256)) (y139.length : Int) (wrap64 (x17_3 + 1))) else (none)) else (none)) = some r := by first | (rw [hji15] at H; exact H) | (simp only [hji15] at H ⊢; exact H)
                      have hji15_ : (a0 / 2 ^ min (ji13).toNat 64) = ji15 := hji15
                      have hji15z : (ji13) ≤ 64 → (a0 / 2 ^ (ji13).toNat) = ji15 := shr_small hji15
                      obtain ⟨ji16, hji16⟩ : ∃ j_ : Int, (wrap64 ((wrap64 (x1_4 - 1)) - x17_3)) = j_ := ⟨_, rfl⟩
                      replace H : (if 0 ≤ (ji16) then (if (ji16) < (x5_3.length : Int) then (impl_word.l0 k3 a0 x1_4 (x5_3.set ((ji16) : Int).toNat ((ji15) % 256)) (y139.length : Int) (wrap64 (x17_3 + 1))) else (none)) else (none)) = some r := by first | (rw [hji16] at H; exact H) | (simp only [hji16] at H ⊢; exact H)
                      have hji16w : (IntKind.i64.wrap ((wrap64 (x1_4 - 1)) - x17_3)) = ji16 := (i64_w _).trans hji16
                      by_cases c17 : 0 ≤ (ji16)
                      · rw [if_pos c17] at H
                        have c17b0 : decide (0 ≤ (ji16)) = true := decide_eq_true c17
                        clear c17
                        by_cases c18 : (ji16) < (x5_3.length : Int)
                        · rw [if_pos c18] at H
                          have c18b0 : decide ((ji16) < (x5_3.length : Int)) = true := decide_eq_true c18
                          (try simp only [hl5_3] at c18b0); (try simp only [hl5_3] at c18b0)
                          clear c18
                          obtain ⟨y142, hy142⟩ : ∃ y_ : List Int, y_ = (x5_3.set ((ji16) : Int).toNat ((ji15) % 256)) := ⟨_, rfl⟩
                          replace H : (impl_word.l0 k3 a0 x1_4 y142 (y139.length : Int) (wrap64 (x17_3 + 1))) = some r := by first | (rw [hy142]; with_reducible exact H) | (have H2_ := (Option.bind_some _ _).symm.trans H; rw [hy142]; with_reducible exact H2_) | (have H2_ := (Option.bind_some _ _).symm.trans H; with_reducible exact H2_) | with_reducible exact H | (rw [hy142]; exact H) | exact H
                          have Ny142 := Aside0.mk hy142
                          clear hy142
                          have H' := Aside0.mk H
                          clear H
                          have p19 : 0 ≤ ((ji16) : Int) := of_decide_eq_true (by first | (with_reducible assumption) | assumption)
                          have q19 : ((ji16) : Int) < ((x5_3.length : Int) : Int) := of_decide_eq_true (by first | (with_reducible assumption) | assumption)
                          obtain ⟨go19, co19, eo19, gb19, gl19, cl19, HG19⟩ := Kd.R_form HO_5.out (by omega)
                          (first | cases eo19 | (injection eo19 with ea_ en_ ec_; (first | subst ea_ | (injection ea_ with ea_; subst ea_)); subst ec_; clear en_))
                          have GB19 := Aside0.mk gb19
                          have GG19 := Aside0.mk HG19
                          clear gb19 gl19 HG19
                          obtain ⟨hx19_0, hf19_0⟩ := Kd.R_celln 0 HO_5.out ((ji16) : Int) p19 q19
                          replace p19 := eq_true p19
                          replace q19 := eq_true q19
                          have HP20 := Kd.R_putg HO_5.out ((ji16) : Int) ((ji15) % 256)
                          go_wp2_with (first | ((with_reducible refine gate_store (t := 5) (p := 30) rfl ?_); refine store_event (t := 5) (p := 30) (v := ?vo_w21) (w1 := (wr.setCell ⟨go19, ((ji16) : Int).toNat, none⟩ (.int .u8 ((ji15) % 256)))) ?hg ?ho ?hn ?hr ?_; (case ho => rfl); (case hg => rfl); (case hn => rfl); (case hr => first | (go_simp; done) | (go_simp; rfl)); intro w21 hw; have hg : wr.grownBy w21 (some go19) := (by rw [hw]; exact HP20.2); have hp_ : Kd.R (Kd.int .u8) 5 w21 w.heap.size (fun _ => True) (.slice (some ⟨go19, 0, none⟩) x5_3.length co11) y142 := (by rw [hw, Ny142.out]; exact HP20.1); clear HP20; have n0_ := Aside0.mk (hp_); have n1_ := Aside0.mk ((by rw [hw]; exact below_set (HB.out) GB19.out : Below w.heap.size w w21)); clear HO_5; clear HB; have HO_5 := n0_; have HB := n1_; clear n0_ n1_; clear hg hw hp_))
                          (try simp only [← hl5_3])
                          go_roundg k3
                          case measure => have := HJ2.out; have := HJ4.out; have := HK3.out; omega
                          case rel => exact ⟨(y142), (wrap64 (x17_3 + 1)), (by first | rfl | (simp; done) | (simp [*]; done)), H', ⟨by have := HJ2.out; have := HJ4.out; have := HK3.out; omega⟩, ⟨by (try simp only [hl5_3]); (with_reducible repeat (first | apply Kd.R_alloc | apply Kd.R_drewN | apply Kd.R_drew)); exact HO_5.out⟩, ⟨by repeat (first | (with_reducible first | exact HB.out | apply below_alloc | apply pw_below_drewN | apply below_drew1) | exact HB.out)⟩⟩
                        · rw [if_neg c18] at H
                          exact absurd H (by simp)
                      · rw [if_neg c17] at H
                        exact absurd H (by simp)
                    · rw [if_neg c14] at H
                      exact absurd H (by simp)
                  · rw [if_neg c12] at H
                    have c12b0 : decide (x17_3 < (y139.length : Int)) = false := decide_eq_false c12
                    (try simp only [hl5_3] at c12b0); (try simp only [hl5_3] at c12b0)
                    clear c12
                    obtain rfl := Option.some.inj H
                    go_wp2
                    go_ret
                    exact ⟨_, by first | rfl | (simp [errW_none, errW_some] <;> rfl) | (simp [*, errW_none, errW_some] <;> rfl), by (with_reducible repeat (first | apply Kd.R_alloc | apply Kd.R_drewN | apply Kd.R_drew)); exact HO_5.out, by repeat (first | (with_reducible first | exact HB.out | apply below_alloc | apply pw_below_drewN | apply below_drew1) | exact HB.out)⟩
            · rw [if_neg c8] at H
              exact absurd H (by simp)
          · rw [if_neg c7] at H
            exact absurd H (by simp)
def impl_mixed.l0 : Nat → Int → List Int → Int → Int → Option (Int)
  | 0, _, _, _, _ => none
  | k + 1, x0, x7, x8, x9 => if x9 < x8 then (if 0 ≤ x9 then (if x9 < (x7.length : Int) then (impl_mixed.l0 k (IntKind.u64.wrap ((Go.bits .xor .u64 x0 (IntKind.u64.wrap (rd x7 x9))) * 1099511628211)) x7 x8 (wrap64 (x9 + 1))) else (none)) else (none)) else (some x0)
def impl_mixed.f (k : Nat) (a0 : Int) (l1 : List Int) : Option (Int) := impl_mixed.l0 k a0 l1 (l1.length : Int) 0
theorem impl_mixed.mono_l : ∀ k, (∀ y0 y1 y2 y3, LeO (impl_mixed.l0 k y0 y1 y2 y3) (impl_mixed.l0 (k + 1) y0 y1 y2 y3))
  | 0 => fun _ _ _ _ r h => by simp [impl_mixed.l0] at h
  | k + 1 => by
    have ih0 := impl_mixed.mono_l k
    · intro y0 y1 y2 y3
      unfold impl_mixed.l0
      repeat' first
      | (with_reducible exact ih0 _ _ _ _)
      | (with_reducible exact LeO.refl _)
      | (with_reducible exact LeO.none _)
      | (with_reducible refine LeO.ite ?_ ?_)
      | (with_reducible refine LeO.bind ?_ (fun _ => ?_))
      | exact ih0 _ _ _ _
      | exact LeO.none _
      | refine LeO.ite ?_ ?_
      | refine LeO.bind ?_ (fun _ => ?_)
theorem impl_mixed.mono : ∀ a0 a1 k, LeO (impl_mixed.f k a0 a1) (impl_mixed.f (k + 1) a0 a1) := by
  intro a0 a1 k
  have ih0 := impl_mixed.mono_l k
  unfold impl_mixed.f
  repeat' first
      | (with_reducible exact ih0 _ _ _ _)
      | (with_reducible exact LeO.refl _)
      | (with_reducible exact LeO.none _)
      | (with_reducible refine LeO.ite ?_ ?_)
      | (with_reducible refine LeO.bind ?_ (fun _ => ?_))
      | exact ih0 _ _ _ _
      | exact LeO.none _
      | refine LeO.ite ?_ ?_
      | refine LeO.bind ?_ (fun _ => ?_)
set_option maxHeartbeats 8000000 in
set_option maxRecDepth 100000 in
theorem impl_mixed.calls (k : Nat) (a0 : Int) (A1 : Option Addr) (c1 : Nat) (l1 : List Int) (r : Int) (w : World) (hr1 : Kd.C (Kd.int .u8) w A1 l1.length l1) (hc1 : l1.length ≤ c1) (h : impl_mixed.f k a0 l1 = some r) :
    Calls Tryd.prog 113 #[.int .u64 a0, .slice A1 l1.length c1] w fun e w' => e = .returned (.int .u64 r) ∧ Drawn0 w w' := by
  have HR1 := Aside0.mk hr1
  have HC1 := Aside0.mk hc1
  clear hr1 hc1
  have H : (impl_mixed.l0 k a0 l1 (l1.length : Int) 0) = some r := h
  clear h
  have H' := Aside0.mk H
  clear H
  go_enter Tryd.func113, Tryd.ntmps113
  go_wp2
  try simp only [Act.put, List.setIfInBounds_toArray, List.set_cons_zero, List.set_cons_succ]
  go_loopg [0, 9] k (fun kq v0 v9 w' => ∃ (x0_1 : Int) (x9_1 : Int), v0 = .int .u64 x0_1 ∧ v9 = .int .i64 x9_1 ∧ Aside0 (impl_mixed.l0 kq x0_1 l1 (l1.length : Int) x9_1 = some r) ∧ Aside0 (kq ≤ k) ∧ Drawn0 w w')
  case atStart => exact ⟨(a0), (0), (by first | rfl | (simp; done) | (simp [*]; done)), (by first | rfl | (simp; done) | (simp [*]; done)), H', ⟨Nat.le_refl _⟩, by repeat (first | exact Drawn0.refl _ | apply Drawn0.step)⟩
  case round =>
    clear H'
    try clear c1
    try clear p2
    obtain ⟨x0_1, x9_1, rfl, rfl, HA, HK1, ⟨m1, rfl⟩⟩ := hrel
    cases gk with
    | zero => exact absurd HA.out (by simp [impl_mixed.l0])
    | succ k1 =>
      have H := HA.out
      clear HA
      simp only [impl_mixed.l0] at H
      by_cases c3 : x9_1 < (l1.length : Int)
      · rw [if_pos c3] at H
        have c3b0 : decide (x9_1 < (l1.length : Int)) = true := decide_eq_true c3
        clear c3
        by_cases c4 : 0 ≤ x9_1
        · rw [if_pos c4] at H
          have c4b0 : decide (0 ≤ x9_1) = true := decide_eq_true c4
          clear c4
          by_cases c5 : x9_1 < (l1.length : Int)
          · rw [if_pos c5] at H
            have c5b0 : decide (x9_1 < (l1.length : Int)) = true := decide_eq_true c5
            clear c5
            have H' := Aside0.mk H
            clear H
            have p143 : 0 ≤ (x9_1 : Int) := of_decide_eq_true (by first | (with_reducible assumption) | assumption)
            have q143 : x9_1 < (l1.length : Int) := of_decide_eq_true (by first | (with_reducible assumption) | assumption)
            obtain ⟨ad143, e143, hx143_0⟩ := Kd.at_int HR1.out x9_1 p143 q143
            cases e143
            replace p143 := eq_true p143
            replace q143 := eq_true q143
            go_wp2
            go_roundg k1
            case measure => have := HK1.out; omega
            case rel => exact ⟨(IntKind.u64.wrap ((Go.bits .xor .u64 x0_1 (IntKind.u64.wrap (rd l1 x9_1))) * 1099511628211)), (wrap64 (x9_1 + 1)), (by first | rfl | (simp; done) | (simp [*]; done)), (by first | rfl | (simp; done) | (simp [*]; done)), H', ⟨by have := HK1.out; omega⟩, by repeat (first | exact Drawn0.refl _ | apply Drawn0.step)⟩
          · rw [if_neg c5] at H
            exact absurd H (by simp)
        · rw [if_neg c4] at H
          exact absurd H (by simp)
      · rw [if_neg c3] at H
        have c3b0 : decide (x9_1 < (l1.length : Int)) = false := decide_eq_false c3
        clear c3
        obtain rfl := Option.some.inj H
        go_wp2
        go_ret
        exact ⟨by first | rfl | (simp; done) | (simp [*]; done), by repeat (first | exact Drawn0.refl _ | apply Drawn0.step)⟩
end Go.Proofs.YtijldedhcjkhiaaDoor.T
