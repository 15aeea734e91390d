import Derived.Test.YtijldedhcjkhiaaDoorSI0
import Derived.Test.YtijldedhcjkhiaaDoorSI2
namespace Go.Proofs.YtijldedhcjkhiaaDoor.I
open Go.RowKit Go.Proofs.YtijldedhcjkhiaaDoorW.PrintWords Go.Proofs.YtijldedhcjkhiaaDoorW.PrintLast Go.Proofs.YtijldedhcjkhiaaDoorW.PrintMore
attribute [local go_sem] max2_int min2_int max_two min_two max_three min_three max_four min_four   -- for this text's walks alone
set_option linter.unusedVariables false
set_option linter.unusedSimpArgs false
mutual
def compact_RangeNodes.l0 : Nat → List (S107) → Int → Int → Int → Option ((List (S107)))
 | 0, _, _, _, _ => none
 | k + 1, x2, x7, x8, x9 => if x7 = 0 then (compact_RangeNodes.l1 k x2 x8 x9) else ((bits_TrailingZeros64.f x7).bind fun t149 => (if 0 ≤ (IntKind.u64.wrap (t149)) then ((compact_NewNodeID.f (IntKind.u64.wrap (t149)) (shr .u64 x9 (IntKind.u64.wrap (t149)))).bind fun bt150 => (if x2.length < 8796093022208 then (compact_RangeNodes.l0 k (x2 ++ [(⟨bt150.1, bt150.2⟩ : S107)]) (Go.bits .xor .u64 x7 (shl .u64 1 (IntKind.u64.wrap (t149)))) x8 (IntKind.u64.wrap (x9 + (shl .u64 1 (IntKind.u64.wrap (t149)))))) else (none))) else (none)))
def compact_RangeNodes.l1 : Nat → List (S107) → Int → Int → Option ((List (S107)))
 | 0, _, _, _ => none
 | k + 1, x2, x8, x9 => if x8 = 0 then (some x2) else ((bits_Len64.f x8).bind fun t155 => (if 0 ≤ (IntKind.u64.wrap ((IntKind.u64.wrap (t155)) - 1)) then ((compact_NewNodeID.f (IntKind.u64.wrap ((IntKind.u64.wrap (t155)) - 1)) (shr .u64 x9 (IntKind.u64.wrap ((IntKind.u64.wrap (t155)) - 1)))).bind fun bt156 => (if x2.length < 8796093022208 then (compact_RangeNodes.l1 k (x2 ++ [(⟨bt156.1, bt156.2⟩ : S107)]) (Go.bits .xor .u64 x8 (shl .u64 1 (IntKind.u64.wrap ((IntKind.u64.wrap (t155)) - 1)))) (IntKind.u64.wrap (x9 + (shl .u64 1 (IntKind.u64.wrap ((IntKind.u64.wrap (t155)) - 1)))))) else (none))) else (none)))
end
def compact_RangeNodes.f (k : Nat) (a0 : Int) (a1 : Int) (l2 : List (S107)) : Option ((List (S107))) := (compact_Decompose.f a0 a1).bind fun bt147 => (compact_RangeNodes.l0 k l2 bt147.1 bt147.2 a0)
theorem compact_RangeNodes.mono_l : ∀ k, (∀ y0 y1 y2 y3, LeO (compact_RangeNodes.l0 k y0 y1 y2 y3) (compact_RangeNodes.l0 (k + 1) y0 y1 y2 y3)) ∧ (∀ y0 y1 y2, LeO (compact_RangeNodes.l1 k y0 y1 y2) (compact_RangeNodes.l1 (k + 1) y0 y1 y2))
 | 0 => ⟨fun _ _ _ _ r h => by simp [compact_RangeNodes.l0] at h, fun _ _ _ r h => by simp [compact_RangeNodes.l1] at h⟩
 | k + 1 => by
  obtain ⟨ih0, ih1⟩ := compact_RangeNodes.mono_l k
  refine ⟨?_, ?_⟩
  ·intro y0 y1 y2 y3
   unfold compact_RangeNodes.l0
   repeat' first
   | (with_reducible exact ih0 _ _ _ _)
   | (with_reducible exact ih1 _ _ _)
   | (with_reducible exact LeO.refl _)
   | (with_reducible exact LeO.none _)
   | (with_reducible refine LeO.ite ?_ ?_)
   | (with_reducible refine LeO.bind ?_ (fun _ => ?_))
   | exact ih0 _ _ _ _
   | exact ih1 _ _ _
   | exact LeO.none _
   | refine LeO.ite ?_ ?_
   | refine LeO.bind ?_ (fun _ => ?_)
  ·intro y0 y1 y2
   unfold compact_RangeNodes.l1
   repeat' first
   | (with_reducible exact ih0 _ _ _ _)
   | (with_reducible exact ih1 _ _ _)
   | (with_reducible exact LeO.refl _)
   | (with_reducible exact LeO.none _)
   | (with_reducible refine LeO.ite ?_ ?_)
   | (with_reducible refine LeO.bind ?_ (fun _ => ?_))
   | exact ih0 _ _ _ _
   | exact ih1 _ _ _
   | exact LeO.none _
   | refine LeO.ite ?_ ?_
   | refine LeO.bind ?_ (fun _ => ?_)
theorem compact_RangeNodes.mono : ∀ a0 a1 a2 k, LeO (compact_RangeNodes.f k a0 a1 a2) (compact_RangeNodes.f (k + 1) a0 a1 a2) := by
 intro a0 a1 a2 k
 obtain ⟨ih0, ih1⟩ := compact_RangeNodes.mono_l k
 unfold compact_RangeNodes.f
 repeat' first
   | (with_reducible exact ih0 _ _ _ _)
   | (with_reducible exact ih1 _ _ _)
   | (with_reducible exact LeO.refl _)
   | (with_reducible exact LeO.none _)
   | (with_reducible refine LeO.ite ?_ ?_)
   | (with_reducible refine LeO.bind ?_ (fun _ => ?_))
   | exact ih0 _ _ _ _
   | exact ih1 _ _ _
   | exact LeO.none _
   | refine LeO.ite ?_ ?_
   | refine LeO.bind ?_ (fun _ => ?_)
set_option maxHeartbeats 8000000 in
set_option maxRecDepth 100000 in
theorem compact_RangeNodes.calls (k : Nat) (a0 : Int) (a1 : Int) (P2_ : Nat → Prop) (u9000_ : Value) (l2 : List (S107)) (r : List (S107)) (w0 w : World) (hGT : GlobT w0) (hB : Below w0.heap.size w0 w) (ho2 : Kd.R k107 107 w w0.heap.size P2_ u9000_ l2) (h : compact_RangeNodes.f k a0 a1 l2 = some r) :
  Calls Tryd.prog 65 #[.int .u64 a0, .int .u64 a1, u9000_] w fun e w' => ∃ v0_ : Value, e = .returned (v0_) ∧ Kd.R k107 107 w' w0.heap.size (fun k_ => (P2_ k_ ∨ w.heap.size ≤ k_)) v0_ r ∧ Below w0.heap.size w0 w' ∧ Kept w w' (fun k_ => P2_ k_) := by
 have HO2 := Aside0.mk (show Kd.R k107 107 w w0.heap.size (fun k_ => (P2_ k_ ∨ w.heap.size ≤ k_)) u9000_ l2 from Kd.R_mono ho2 (fun k_ hk => (.inl hk)))
 have HK := Aside0.mk (Kept.refl w (fun k_ => P2_ k_))
 have HW0 := Aside0.mk hB.size
 have HB := Aside0.mk hB
 clear hB
 have H : ((compact_Decompose.f a0 a1).bind fun bt147 => (compact_RangeNodes.l0 k l2 bt147.1 bt147.2 a0)) = some r := h
 clear h
 replace H := Option.bind_eq_some_iff.mp H
 obtain ⟨⟨t147, t148⟩, A40, H⟩ := H
 replace H : (compact_RangeNodes.l0 k l2 t147 t148 a0) = some r := H
 have A4 := Aside0.mk A40
 clear A40
 have H' := Aside0.mk H
 clear H
 go_enter Tryd.func65, Tryd.ntmps65
 go_wp2_with (first | ((with_reducible refine gate_callee (f := 108) rfl ?_); refine goesL_ (some 17) rfl rfl Tryd.func108 (by kernel_rfl) rfl #[.int .u64 a0, .int .u64 a1] rfl (by (try simp only [List.map_toArray, List.map_cons, List.map_nil]); first | done | rfl | (simp only [List.length_drop, List.length_take]; rfl)) ?_; (with_reducible refine (compact_Decompose.calls a0 a1 t147 t148 _ A4.out).mono ?_); rintro e w' ⟨rfl, ⟨nd, rfl⟩⟩; refine ⟨_, rfl, ?_⟩))
 try simp only [Act.put, List.setIfInBounds_toArray, List.set_cons_zero, List.set_cons_succ]
 go_loopg [2, 7, 9] k (fun kq v2 v7 v9 w' => ∃ (x2_1 : List (S107)) (x7_1 : Int) (x9_1 : Int), v7 = .int .u64 x7_1 ∧ v9 = .int .u64 x9_1 ∧ Aside0 (compact_RangeNodes.l0 kq x2_1 x7_1 t148 x9_1 = some r) ∧ Aside0 (kq ≤ k) ∧ Aside0 (Kd.R k107 107 w' w0.heap.size (fun k_ => (P2_ k_ ∨ w.heap.size ≤ k_)) v2 x2_1) ∧ Aside0 (Kept w w' (fun k_ => P2_ k_)) ∧ Aside0 (Below w0.heap.size w0 w'))
 case atStart => exact ⟨(l2), (t147), (a0), (by first | rfl | (simp; done) | (simp [*]; done)), (by first | rfl | (simp; done) | (simp [*]; done)), H', ⟨Nat.le_refl _⟩, ⟨by (with_reducible repeat (first | apply Kd.R_alloc | apply Kd.R_drewN | apply Kd.R_drew)); exact HO2.out⟩, ⟨by repeat (first | (with_reducible first | exact HK.out | apply Kept.alloc | apply Kept.drewN | apply Kept.drew) | exact HK.out)⟩, ⟨by repeat (first | (with_reducible first | exact HB.out | apply below_alloc | apply pw_below_drewN | apply below_drew1) | exact HB.out)⟩⟩
 case round =>
  clear H'
  try clear c1
  try clear p2
  obtain ⟨x2_1, x7_1, x9_1, rfl, rfl, HA, HK1, HO_2, HK, HB⟩ := hrel
  cases gk with
  | zero => exact absurd HA.out (by simp [compact_RangeNodes.l0])
  | succ k1 =>
   have H := HA.out
   clear HA
   simp only [compact_RangeNodes.l0] at H
   by_cases c5 : x7_1 = 0
   ·rw [if_pos c5] at H
    have c5b0 : (x7_1 == 0) = true := beq_iff_eq.mpr c5
    have c5b1 : (x7_1 != 0) = false := bne_eq_false_iff_eq.mpr c5
    clear c5
    have H' := Aside0.mk H
    clear H
    go_wp2
    try simp only [Act.put, List.setIfInBounds_toArray, List.set_cons_zero, List.set_cons_succ]
    go_loopg [2, 8, 9] k1 (fun kq v2 v8 v9 w' => ∃ (x2_2 : List (S107)) (x8_2 : Int) (x9_2 : Int), v8 = .int .u64 x8_2 ∧ v9 = .int .u64 x9_2 ∧ Aside0 (compact_RangeNodes.l1 kq x2_2 x8_2 x9_2 = some r) ∧ Aside0 (kq ≤ k1) ∧ Aside0 (Kd.R k107 107 w' w0.heap.size (fun k_ => (P2_ k_ ∨ w.heap.size ≤ k_)) v2 x2_2) ∧ Aside0 (Kept w w' (fun k_ => P2_ k_)) ∧ Aside0 (Below w0.heap.size w0 w'))
    case atStart => exact ⟨(x2_1), (t148), (x9_1), (by first | rfl | (simp; done) | (simp [*]; done)), (by first | rfl | (simp; done) | (simp [*]; done)), H', ⟨Nat.le_refl _⟩, ⟨by (with_reducible repeat (first | apply Kd.R_alloc | apply Kd.R_drewN | apply Kd.R_drew)); exact HO_2.out⟩, ⟨by repeat (first | (with_reducible first | exact HK.out | apply Kept.alloc | apply Kept.drewN | apply Kept.drew) | exact HK.out)⟩, ⟨by repeat (first | (with_reducible first | exact HB.out | apply below_alloc | apply pw_below_drewN | apply below_drew1) | exact HB.out)⟩⟩
    case round =>
     clear H'
     try clear c1
     try clear p2
     try clear c5
     try clear c5b0
     try clear c5b1
     try clear p2
     obtain ⟨x2_2, x8_2, x9_2, rfl, rfl, HA, HK2, HO_2, HK, HB⟩ := hrel
     cases gk with
     | zero => exact absurd HA.out (by simp [compact_RangeNodes.l1])
     | succ k2 =>
      have H := HA.out
      clear HA
      simp only [compact_RangeNodes.l1] at H
      by_cases c6 : x8_2 = 0
      ·rw [if_pos c6] at H
       have c6b0 : (x8_2 == 0) = true := beq_iff_eq.mpr c6
       have c6b1 : (x8_2 != 0) = false := bne_eq_false_iff_eq.mpr c6
       clear c6
       obtain rfl := Option.some.inj H
       go_wp2
       go_ret
       exact ⟨_, by first | rfl | (simp [errW_none, errW_some] <;> rfl) | (simp [*, errW_none, errW_some] <;> rfl), by (with_reducible repeat (first | apply Kd.R_alloc | apply Kd.R_drewN | apply Kd.R_drew)); exact HO_2.out, by repeat (first | (with_reducible first | exact HB.out | apply below_alloc | apply pw_below_drewN | apply below_drew1) | exact HB.out), by repeat (first | (with_reducible first | exact HK.out | apply Kept.alloc | apply Kept.drewN | apply Kept.drew) | exact HK.out)⟩
      ·rw [if_neg c6] at H
       have c6b0 : (x8_2 == 0) = false := beq_eq_false_iff_ne.mpr c6
       have c6b1 : (x8_2 != 0) = true := bne_iff_ne.mpr c6
       replace H := Option.bind_eq_some_iff.mp H
       obtain ⟨t155, A70, H⟩ := H
       replace H : (if 0 ≤ (IntKind.u64.wrap ((IntKind.u64.wrap (t155)) - 1)) then ((compact_NewNodeID.f (IntKind.u64.wrap ((IntKind.u64.wrap (t155)) - 1)) (shr .u64 x9_2 (IntKind.u64.wrap ((IntKind.u64.wrap (t155)) - 1)))).bind fun bt156 => (if x2_2.length < 8796093022208 then (compact_RangeNodes.l1 k2 (x2_2 ++ [(⟨bt156.1, bt156.2⟩ : S107)]) (Go.bits .xor .u64 x8_2 (shl .u64 1 (IntKind.u64.wrap ((IntKind.u64.wrap (t155)) - 1)))) (IntKind.u64.wrap (x9_2 + (shl .u64 1 (IntKind.u64.wrap ((IntKind.u64.wrap (t155)) - 1)))))) else (none))) else (none)) = some r := H
       have A7 := Aside0.mk A70
       clear A70
       obtain ⟨ji8, hji8⟩ : ∃ j_ : Int, (IntKind.u64.wrap ((IntKind.u64.wrap (t155)) - 1)) = j_ := ⟨_, rfl⟩
       replace H : (if 0 ≤ (ji8) then ((compact_NewNodeID.f (ji8) (shr .u64 x9_2 (ji8))).bind fun bt156 => (if x2_2.length < 8796093022208 then (compact_RangeNodes.l1 k2 (x2_2 ++ [(⟨bt156.1, bt156.2⟩ : S107)]) (Go.bits .xor .u64 x8_2 (shl .u64 1 (ji8))) (IntKind.u64.wrap (x9_2 + (shl .u64 1 (ji8))))) else (none))) else (none)) = some r := by first | (rw [hji8] at H; exact H) | (simp only [hji8] at H ⊢; exact H)
       (try rw [hji8] at A7)
       by_cases c9 : 0 ≤ (ji8)
       ·rw [if_pos c9] at H
        have c9b0 := eq_true c9
        have c9b1 : decide (0 ≤ (ji8)) = true := decide_eq_true c9
        clear c9
        obtain ⟨ji10, hji10⟩ : ∃ j_ : Int, (shl .u64 1 (ji8)) = j_ := ⟨_, rfl⟩
        replace H : ((compact_NewNodeID.f (ji8) (shr .u64 x9_2 (ji8))).bind fun bt156 => (if x2_2.length < 8796093022208 then (compact_RangeNodes.l1 k2 (x2_2 ++ [(⟨bt156.1, bt156.2⟩ : S107)]) (Go.bits .xor .u64 x8_2 (ji10)) (IntKind.u64.wrap (x9_2 + (ji10)))) else (none))) = some r := by first | (rw [hji10] at H; exact H) | (simp only [hji10] at H ⊢; exact H)
        (try rw [hji10] at A7)
        have hji10_ : (IntKind.u64.wrap (1 * 2 ^ min (ji8).toNat 64)) = ji10 := hji10
        have hji10z : (ji8) ≤ 64 → (IntKind.u64.wrap (1 * 2 ^ (ji8).toNat)) = ji10 := shl_small hji10
        have hji10u : (IntKind.u64.wrap (2 ^ min (ji8).toNat 64)) = ji10 := by have h_ := hji10_; rw [Int.one_mul] at h_; exact h_
        have hji10v : (ji8) ≤ 64 → (IntKind.u64.wrap (2 ^ (ji8).toNat)) = ji10 := fun hle_ => by have h_ := hji10z hle_; rw [Int.one_mul] at h_; exact h_
        have c11b0 := eq_true (of_decide_eq_true (by first | (with_reducible assumption) | assumption) : 0 ≤ (ji8))
        obtain ⟨ji12, hji12⟩ : ∃ j_ : Int, (shr .u64 x9_2 (ji8)) = j_ := ⟨_, rfl⟩
        replace H : ((compact_NewNodeID.f (ji8) (ji12)).bind fun bt156 => (if x2_2.length < 8796093022208 then (compact_RangeNodes.l1 k2 (x2_2 ++ [(⟨bt156.1, bt156.2⟩ : S107)]) (Go.bits .xor .u64 x8_2 (ji10)) (IntKind.u64.wrap (x9_2 + (ji10)))) else (none))) = some r := by first | (rw [hji12] at H; exact H) | (simp only [hji12] at H ⊢; exact H)
        (try rw [hji12] at A7)
        have hji12_ : (x9_2 / 2 ^ min (ji8).toNat 64) = ji12 := hji12
        have hji12z : (ji8) ≤ 64 → (x9_2 / 2 ^ (ji8).toNat) = ji12 := shr_small hji12
        replace H := Option.bind_eq_some_iff.mp H
        obtain ⟨⟨t156, t157⟩, A130, H⟩ := H
        replace H : (if x2_2.length < 8796093022208 then (compact_RangeNodes.l1 k2 (x2_2 ++ [(⟨t156, t157⟩ : S107)]) (Go.bits .xor .u64 x8_2 (ji10)) (IntKind.u64.wrap (x9_2 + (ji10)))) else (none)) = some r := H
        have A13 := Aside0.mk A130
        clear A130
        by_cases c14 : x2_2.length < 8796093022208
        ·rw [if_pos c14] at H
         have LMc14 := Aside0.mk c14
         clear c14
         obtain ⟨y158, hy158⟩ : ∃ y_ : List (S107), y_ = (x2_2 ++ [(⟨t156, t157⟩ : S107)]) := ⟨_, rfl⟩
         replace H : (compact_RangeNodes.l1 k2 y158 (Go.bits .xor .u64 x8_2 (ji10)) (IntKind.u64.wrap (x9_2 + (ji10)))) = some r := by first | (rw [hy158]; with_reducible exact H) | (have H2_ := (Option.bind_some _ _).symm.trans H; rw [hy158]; with_reducible exact H2_) | (have H2_ := (Option.bind_some _ _).symm.trans H; with_reducible exact H2_) | with_reducible exact H | (rw [hy158]; exact H) | exact H
         have Ny158 := Aside0.mk hy158
         clear hy158
         have H' := Aside0.mk H
         clear H
         go_wp2_with (first | ((with_reducible refine gate_callee (f := 110) rfl ?_); refine goesL_ (some 51) rfl rfl Tryd.func110 (by kernel_rfl) rfl #[.int .u64 x8_2] rfl (by (try simp only [List.map_toArray, List.map_cons, List.map_nil]); first | done | rfl | (simp only [List.length_drop, List.length_take]; rfl)) ?_; (with_reducible refine (bits_Len64.calls x8_2 t155 _ A7.out).mono ?_); rintro e w' ⟨rfl, ⟨nd, rfl⟩⟩; refine ⟨_, rfl, ?_⟩) | ((with_reducible refine gate_callee (f := 107) rfl ?_); refine goesL_ (some 61) rfl rfl Tryd.func107 (by kernel_rfl) rfl #[.int .u64 ji8, .int .u64 ji12] rfl (by (try simp only [List.map_toArray, List.map_cons, List.map_nil]); first | done | (simp only [hji12, hji8]; rfl) | rfl | (simp only [List.length_drop, List.length_take]; rfl)) ?_; (with_reducible refine (compact_NewNodeID.calls ji8 ji12 t156 t157 _ A13.out).mono ?_); rintro e w15 ⟨rfl, hb⟩; refine ⟨_, rfl, ?_⟩; have n0_ := Aside0.mk (Kd.R_below (by (with_reducible repeat (first | apply Kd.R_alloc | apply Kd.R_drewN | apply Kd.R_drew)); exact HO_2.out) hb); have n1_ := Aside0.mk (Kept.below (S := (fun k_ => P2_ k_)) (by repeat (first | (with_reducible first | exact HK.out | apply Kept.alloc | apply Kept.drewN | apply Kept.drew) | exact HK.out)) hb); have n2_ := Aside0.mk (below_step (by repeat (first | (with_reducible first | exact HB.out | apply below_alloc | apply pw_below_drewN | apply below_drew1) | exact HB.out)) hb); clear HO_2; clear HK; clear HB; have HO_2 := n0_; have HK := n1_; have HB := n2_; clear n0_ n1_ n2_; (try clear hb); (try clear hb2); (try clear hk); (try clear hi)) | ((with_reducible refine gate_builtin (b := .append) (xs := #[.tmp 56, .tmp 62]) rfl ?_); at_builtin; refine Kd.R_append k107 (w0 := w0) w0.heap.size rfl (.tmp 56) (.tmp 62) 106 107 (.agg #[(.int .u64 0), (.int .u64 0)]) 16 rfl Tryd.underlying106 info107 rfl (by decide) (by omega) u2 x2_2 (⟨t156, t157⟩ : S107) [.int .u64 t156, .int .u64 t157] (fun k_ => (P2_ k_ ∨ w.heap.size ≤ k_)) (fun _ => False) rfl rfl ?aP (fun _ hk => hk.elim) ?aF ?aO ?aB ?aS ?aL ?_; (case aP => exact k107_mkM _ _ _ (⟨t156, t157⟩ : S107)); (case aB => exact (by repeat (first | (with_reducible first | exact HB.out | apply below_alloc | apply pw_below_drewN | apply below_drew1) | exact HB.out))); (case aF => exact (fun k_ hk => (.inr (Nat.le_trans (by first | exact HK.out.1 | exact (show Kept w _ (fun k_ => P2_ k_) from by repeat (first | (with_reducible first | exact HK.out | apply Kept.alloc | apply Kept.drewN | apply Kept.drew) | exact HK.out)).1) hk)))); (case aO => exact (by (with_reducible repeat (first | apply Kd.R_alloc | apply Kd.R_drewN | apply Kd.R_drew)); exact HO_2.out)); (case aS => exact (below_size (by repeat (first | (with_reducible first | exact HB.out | apply below_alloc | apply pw_below_drewN | apply below_drew1) | exact HB.out)))); (case aL => have := LMc14.out; omega); intro v159 w16 ho hb hg hat; rw [← Ny158.out] at ho; have n0_ := Aside0.mk (hb); have n1_ := Aside0.mk (Kept.of_grown (S := (fun k_ => P2_ k_)) hg (by repeat (first | (with_reducible first | exact HK.out | apply Kept.alloc | apply Kept.drewN | apply Kept.drew) | exact HK.out)) (fun k_ e_ => (HO_2.out.1 k_ e_))); have n2_ := Aside0.mk (ho); clear HB; clear HK; clear HO_2; have HB := n0_; have HK := n1_; have HO160 := n2_; clear n0_ n1_ n2_; clear ho hb hg hat))
         go_roundg k2
         case measure => have := HK1.out; have := HK2.out; omega
         case rel => exact ⟨(y158), (Go.bits .xor .u64 x8_2 (ji10)), (IntKind.u64.wrap (x9_2 + (ji10))), (by first | rfl | (simp; done) | (simp only [← hji10] <;> (first | rfl | simp)) | (simp [*]; done)), (by first | rfl | (simp; done) | (simp only [← hji10] <;> (first | rfl | simp)) | (simp [*]; done)), H', ⟨by have := HK1.out; have := HK2.out; omega⟩, ⟨by (with_reducible repeat (first | apply Kd.R_alloc | apply Kd.R_drewN | apply Kd.R_drew)); exact HO160.out⟩, ⟨by repeat (first | (with_reducible first | exact HK.out | apply Kept.alloc | apply Kept.drewN | apply Kept.drew) | exact HK.out)⟩, ⟨by repeat (first | (with_reducible first | exact HB.out | apply below_alloc | apply pw_below_drewN | apply below_drew1) | exact HB.out)⟩⟩
        ·rw [if_neg c14] at H
         exact absurd H (by simp)
       ·rw [if_neg c9] at H
        exact absurd H (by simp)
   ·rw [if_neg c5] at H
    have c5b0 : (x7_1 == 0) = false := beq_eq_false_iff_ne.mpr c5
    have c5b1 : (x7_1 != 0) = true := bne_iff_ne.mpr c5
    replace H := Option.bind_eq_some_iff.mp H
    obtain ⟨t149, A170, H⟩ := H
    replace H : (if 0 ≤ (IntKind.u64.wrap (t149)) then ((compact_NewNodeID.f (IntKind.u64.wrap (t149)) (shr .u64 x9_1 (IntKind.u64.wrap (t149)))).bind fun bt150 => (if x2_1.length < 8796093022208 then (compact_RangeNodes.l0 k1 (x2_1 ++ [(⟨bt150.1, bt150.2⟩ : S107)]) (Go.bits .xor .u64 x7_1 (shl .u64 1 (IntKind.u64.wrap (t149)))) t148 (IntKind.u64.wrap (x9_1 + (shl .u64 1 (IntKind.u64.wrap (t149)))))) else (none))) else (none)) = some r := H
    have A17 := Aside0.mk A170
    clear A170
    obtain ⟨ji18, hji18⟩ : ∃ j_ : Int, (IntKind.u64.wrap (t149)) = j_ := ⟨_, rfl⟩
    replace H : (if 0 ≤ (ji18) then ((compact_NewNodeID.f (ji18) (shr .u64 x9_1 (ji18))).bind fun bt150 => (if x2_1.length < 8796093022208 then (compact_RangeNodes.l0 k1 (x2_1 ++ [(⟨bt150.1, bt150.2⟩ : S107)]) (Go.bits .xor .u64 x7_1 (shl .u64 1 (ji18))) t148 (IntKind.u64.wrap (x9_1 + (shl .u64 1 (ji18))))) else (none))) else (none)) = some r := by first | (rw [hji18] at H; exact H) | (simp only [hji18] at H ⊢; exact H)
    (try rw [hji18] at A17)
    by_cases c19 : 0 ≤ (ji18)
    ·rw [if_pos c19] at H
     have c19b0 := eq_true c19
     have c19b1 : decide (0 ≤ (ji18)) = true := decide_eq_true c19
     clear c19
     obtain ⟨ji20, hji20⟩ : ∃ j_ : Int, (shl .u64 1 (ji18)) = j_ := ⟨_, rfl⟩
     replace H : ((compact_NewNodeID.f (ji18) (shr .u64 x9_1 (ji18))).bind fun bt150 => (if x2_1.length < 8796093022208 then (compact_RangeNodes.l0 k1 (x2_1 ++ [(⟨bt150.1, bt150.2⟩ : S107)]) (Go.bits .xor .u64 x7_1 (ji20)) t148 (IntKind.u64.wrap (x9_1 + (ji20)))) else (none))) = some r := by first | (rw [hji20] at H; exact H) | (simp only [hji20] at H ⊢; exact H)
     (try rw [hji20] at A17)
     have hji20_ : (IntKind.u64.wrap (1 * 2 ^ min (ji18).toNat 64)) = ji20 := hji20
     have hji20z : (ji18) ≤ 64 → (IntKind.u64.wrap (1 * 2 ^ (ji18).toNat)) = ji20 := shl_small hji20
     have hji20u : (IntKind.u64.wrap (2 ^ min (ji18).toNat 64)) = ji20 := by have h_ := hji20_; rw [Int.one_mul] at h_; exact h_
     have hji20v : (ji18) ≤ 64 → (IntKind.u64.wrap (2 ^ (ji18).toNat)) = ji20 := fun hle_ => by have h_ := hji20z hle_; rw [Int.one_mul] at h_; exact h_
     have c21b0 := eq_true (of_decide_eq_true (by first | (with_reducible assumption) | assumption) : 0 ≤ (ji18))
     obtain ⟨ji22, hji22⟩ : ∃ j_ : Int, (shr .u64 x9_1 (ji18)) = j_ := ⟨_, rfl⟩
     replace H : ((compact_NewNodeID.f (ji18) (ji22)).bind fun bt150 => (if x2_1.length < 8796093022208 then (compact_RangeNodes.l0 k1 (x2_1 ++ [(⟨bt150.1, bt150.2⟩ : S107)]) (Go.bits .xor .u64 x7_1 (ji20)) t148 (IntKind.u64.wrap (x9_1 + (ji20)))) else (none))) = some r := by first | (rw [hji22] at H; exact H) | (simp only [hji22] at H ⊢; exact H)
     (try rw [hji22] at A17)
     have hji22_ : (x9_1 / 2 ^ min (ji18).toNat 64) = ji22 := hji22
     have hji22z : (ji18) ≤ 64 → (x9_1 / 2 ^ (ji18).toNat) = ji22 := shr_small hji22
     replace H := Option.bind_eq_some_iff.mp H
     obtain ⟨⟨t150, t151⟩, A230, H⟩ := H
     replace H : (if x2_1.length < 8796093022208 then (compact_RangeNodes.l0 k1 (x2_1 ++ [(⟨t150, t151⟩ : S107)]) (Go.bits .xor .u64 x7_1 (ji20)) t148 (IntKind.u64.wrap (x9_1 + (ji20)))) else (none)) = some r := H
     have A23 := Aside0.mk A230
     clear A230
     by_cases c24 : x2_1.length < 8796093022208
     ·rw [if_pos c24] at H
      have LMc24 := Aside0.mk c24
      clear c24
      obtain ⟨y152, hy152⟩ : ∃ y_ : List (S107), y_ = (x2_1 ++ [(⟨t150, t151⟩ : S107)]) := ⟨_, rfl⟩
      replace H : (compact_RangeNodes.l0 k1 y152 (Go.bits .xor .u64 x7_1 (ji20)) t148 (IntKind.u64.wrap (x9_1 + (ji20)))) = some r := by first | (rw [hy152]; with_reducible exact H) | (have H2_ := (Option.bind_some _ _).symm.trans H; rw [hy152]; with_reducible exact H2_) | (have H2_ := (Option.bind_some _ _).symm.trans H; with_reducible exact H2_) | with_reducible exact H | (rw [hy152]; exact H) | exact H
      have Ny152 := Aside0.mk hy152
      clear hy152
      have H' := Aside0.mk H
      clear H
      go_wp2_with (first | ((with_reducible refine gate_callee (f := 109) rfl ?_); refine goesL_ (some 30) rfl rfl Tryd.func109 (by kernel_rfl) rfl #[.int .u64 x7_1] rfl (by (try simp only [List.map_toArray, List.map_cons, List.map_nil]); first | done | rfl | (simp only [List.length_drop, List.length_take]; rfl)) ?_; (with_reducible refine (bits_TrailingZeros64.calls x7_1 t149 _ ?side1 A17.out).mono ?_); (case side1 => exact GlobT.below hGT (by repeat (first | (with_reducible first | exact HB.out | apply below_alloc | apply pw_below_drewN | apply below_drew1) | exact HB.out))); rintro e w' ⟨rfl, ⟨nd, rfl⟩⟩; refine ⟨_, rfl, ?_⟩) | ((with_reducible refine gate_callee (f := 107) rfl ?_); refine goesL_ (some 39) rfl rfl Tryd.func107 (by kernel_rfl) rfl #[.int .u64 ji18, .int .u64 ji22] rfl (by (try simp only [List.map_toArray, List.map_cons, List.map_nil]); first | done | (simp only [hji18, hji22]; rfl) | rfl | (simp only [List.length_drop, List.length_take]; rfl)) ?_; (with_reducible refine (compact_NewNodeID.calls ji18 ji22 t150 t151 _ A23.out).mono ?_); rintro e w25 ⟨rfl, hb⟩; refine ⟨_, rfl, ?_⟩; have n0_ := Aside0.mk (Kd.R_below (by (with_reducible repeat (first | apply Kd.R_alloc | apply Kd.R_drewN | apply Kd.R_drew)); exact HO_2.out) hb); have n1_ := Aside0.mk (Kept.below (S := (fun k_ => P2_ k_)) (by repeat (first | (with_reducible first | exact HK.out | apply Kept.alloc | apply Kept.drewN | apply Kept.drew) | exact HK.out)) hb); have n2_ := Aside0.mk (below_step (by repeat (first | (with_reducible first | exact HB.out | apply below_alloc | apply pw_below_drewN | apply below_drew1) | exact HB.out)) hb); clear HO_2; clear HK; clear HB; have HO_2 := n0_; have HK := n1_; have HB := n2_; clear n0_ n1_ n2_; (try clear hb); (try clear hb2); (try clear hk); (try clear hi)) | ((with_reducible refine gate_builtin (b := .append) (xs := #[.tmp 34, .tmp 40]) rfl ?_); at_builtin; refine Kd.R_append k107 (w0 := w0) w0.heap.size rfl (.tmp 34) (.tmp 40) 106 107 (.agg #[(.int .u64 0), (.int .u64 0)]) 16 rfl Tryd.underlying106 info107 rfl (by decide) (by omega) u2 x2_1 (⟨t150, t151⟩ : S107) [.int .u64 t150, .int .u64 t151] (fun k_ => (P2_ k_ ∨ w.heap.size ≤ k_)) (fun _ => False) rfl rfl ?aP (fun _ hk => hk.elim) ?aF ?aO ?aB ?aS ?aL ?_; (case aP => exact k107_mkM _ _ _ (⟨t150, t151⟩ : S107)); (case aB => exact (by repeat (first | (with_reducible first | exact HB.out | apply below_alloc | apply pw_below_drewN | apply below_drew1) | exact HB.out))); (case aF => exact (fun k_ hk => (.inr (Nat.le_trans (by first | exact HK.out.1 | exact (show Kept w _ (fun k_ => P2_ k_) from by repeat (first | (with_reducible first | exact HK.out | apply Kept.alloc | apply Kept.drewN | apply Kept.drew) | exact HK.out)).1) hk)))); (case aO => exact (by (with_reducible repeat (first | apply Kd.R_alloc | apply Kd.R_drewN | apply Kd.R_drew)); exact HO_2.out)); (case aS => exact (below_size (by repeat (first | (with_reducible first | exact HB.out | apply below_alloc | apply pw_below_drewN | apply below_drew1) | exact HB.out)))); (case aL => have := LMc24.out; omega); intro v153 w26 ho hb hg hat; rw [← Ny152.out] at ho; have n0_ := Aside0.mk (hb); have n1_ := Aside0.mk (Kept.of_grown (S := (fun k_ => P2_ k_)) hg (by repeat (first | (with_reducible first | exact HK.out | apply Kept.alloc | apply Kept.drewN | apply Kept.drew) | exact HK.out)) (fun k_ e_ => (HO_2.out.1 k_ e_))); have n2_ := Aside0.mk (ho); clear HB; clear HK; clear HO_2; have HB := n0_; have HK := n1_; have HO154 := n2_; clear n0_ n1_ n2_; clear ho hb hg hat))
      go_roundg k1
      case measure => have := HK1.out; omega
      case rel => exact ⟨(y152), (Go.bits .xor .u64 x7_1 (ji20)), (IntKind.u64.wrap (x9_1 + (ji20))), (by first | rfl | (simp; done) | (simp only [← hji20] <;> (first | rfl | simp)) | (simp [*]; done)), (by first | rfl | (simp; done) | (simp only [← hji20] <;> (first | rfl | simp)) | (simp [*]; done)), H', ⟨by have := HK1.out; omega⟩, ⟨by (with_reducible repeat (first | apply Kd.R_alloc | apply Kd.R_drewN | apply Kd.R_drew)); exact HO154.out⟩, ⟨by repeat (first | (with_reducible first | exact HK.out | apply Kept.alloc | apply Kept.drewN | apply Kept.drew) | exact HK.out)⟩, ⟨by repeat (first | (with_reducible first | exact HB.out | apply below_alloc | apply pw_below_drewN | apply below_drew1) | exact HB.out)⟩⟩
     ·rw [if_neg c24] at H
      exact absurd H (by simp)
    ·rw [if_neg c19] at H
     exact absurd H (by simp)
def bits_OnesCount64.f (a0 : Int) : Option (Int) := some (Go.bits .and .i64 (wrap64 (IntKind.u64.wrap ((IntKind.u64.wrap ((IntKind.u64.wrap ((Go.bits .and .u64 (IntKind.u64.wrap (((IntKind.u64.wrap ((Go.bits .and .u64 ((IntKind.u64.wrap ((Go.bits .and .u64 (a0 / 2) 6148914691236517205) + (Go.bits .and .u64 a0 6148914691236517205))) / 4) 3689348814741910323) + (Go.bits .and .u64 (IntKind.u64.wrap ((Go.bits .and .u64 (a0 / 2) 6148914691236517205) + (Go.bits .and .u64 a0 6148914691236517205))) 3689348814741910323))) / 16) + (IntKind.u64.wrap ((Go.bits .and .u64 ((IntKind.u64.wrap ((Go.bits .and .u64 (a0 / 2) 6148914691236517205) + (Go.bits .and .u64 a0 6148914691236517205))) / 4) 3689348814741910323) + (Go.bits .and .u64 (IntKind.u64.wrap ((Go.bits .and .u64 (a0 / 2) 6148914691236517205) + (Go.bits .and .u64 a0 6148914691236517205))) 3689348814741910323))))) 1085102592571150095) + ((Go.bits .and .u64 (IntKind.u64.wrap (((IntKind.u64.wrap ((Go.bits .and .u64 ((IntKind.u64.wrap ((Go.bits .and .u64 (a0 / 2) 6148914691236517205) + (Go.bits .and .u64 a0 6148914691236517205))) / 4) 3689348814741910323) + (Go.bits .and .u64 (IntKind.u64.wrap ((Go.bits .and .u64 (a0 / 2) 6148914691236517205) + (Go.bits .and .u64 a0 6148914691236517205))) 3689348814741910323))) / 16) + (IntKind.u64.wrap ((Go.bits .and .u64 ((IntKind.u64.wrap ((Go.bits .and .u64 (a0 / 2) 6148914691236517205) + (Go.bits .and .u64 a0 6148914691236517205))) / 4) 3689348814741910323) + (Go.bits .and .u64 (IntKind.u64.wrap ((Go.bits .and .u64 (a0 / 2) 6148914691236517205) + (Go.bits .and .u64 a0 6148914691236517205))) 3689348814741910323))))) 1085102592571150095) / 256))) + ((IntKind.u64.wrap ((Go.bits .and .u64 (IntKind.u64.wrap (((IntKind.u64.wrap ((Go.bits .and .u64 ((IntKind.u64.wrap ((Go.bits .and .u64 (a0 / 2) 6148914691236517205) + (Go.bits .and .u64 a0 6148914691236517205))) / 4) 3689348814741910323) + (Go.bits .and .u64 (IntKind.u64.wrap ((Go.bits .and .u64 (a0 / 2) 6148914691236517205) + (Go.bits .and .u64 a0 6148914691236517205))) 3689348814741910323))) / 16) + (IntKind.u64.wrap ((Go.bits .and .u64 ((IntKind.u64.wrap ((Go.bits .and .u64 (a0 / 2) 6148914691236517205) + (Go.bits .and .u64 a0 6148914691236517205))) / 4) 3689348814741910323) + (Go.bits .and .u64 (IntKind.u64.wrap ((Go.bits .and .u64 (a0 / 2) 6148914691236517205) + (Go.bits .and .u64 a0 6148914691236517205))) 3689348814741910323))))) 1085102592571150095) + ((Go.bits .and .u64 (IntKind.u64.wrap (((IntKind.u64.wrap ((Go.bits .and .u64 ((IntKind.u64.wrap ((Go.bits .and .u64 (a0 / 2) 6148914691236517205) + (Go.bits .and .u64 a0 6148914691236517205))) / 4) 3689348814741910323) + (Go.bits .and .u64 (IntKind.u64.wrap ((Go.bits .and .u64 (a0 / 2) 6148914691236517205) + (Go.bits .and .u64 a0 6148914691236517205))) 3689348814741910323))) / 16) + (IntKind.u64.wrap ((Go.bits .and .u64 ((IntKind.u64.wrap ((Go.bits .and .u64 (a0 / 2) 6148914691236517205) + (Go.bits .and .u64 a0 6148914691236517205))) / 4) 3689348814741910323) + (Go.bits .and .u64 (IntKind.u64.wrap ((Go.bits .and .u64 (a0 / 2) 6148914691236517205) + (Go.bits .and .u64 a0 6148914691236517205))) 3689348814741910323))))) 1085102592571150095) / 256))) / 65536))) + ((IntKind.u64.wrap ((IntKind.u64.wrap ((Go.bits .and .u64 (IntKind.u64.wrap (((IntKind.u64.wrap ((Go.bits .and .u64 ((IntKind.u64.wrap ((Go.bits .and .u64 (a0 / 2) 6148914691236517205) + (Go.bits .and .u64 a0 6148914691236517205))) / 4) 3689348814741910323) + (Go.bits .and .u64 (IntKind.u64.wrap ((Go.bits .and .u64 (a0 / 2) 6148914691236517205) + (Go.bits .and .u64 a0 6148914691236517205))) 3689348814741910323))) / 16) + (IntKind.u64.wrap ((Go.bits .and .u64 ((IntKind.u64.wrap ((Go.bits .and .u64 (a0 / 2) 6148914691236517205) + (Go.bits .and .u64 a0 6148914691236517205))) / 4) 3689348814741910323) + (Go.bits .and .u64 (IntKind.u64.wrap ((Go.bits .and .u64 (a0 / 2) 6148914691236517205) + (Go.bits .and .u64 a0 6148914691236517205))) 3689348814741910323))))) 1085102592571150095) + ((Go.bits .and .u64 (IntKind.u64.wrap (((IntKind.u64.wrap ((Go.bits .and .u64 ((IntKind.u64.wrap ((Go.bits .and .u64 (a0 / 2) 6148914691236517205) + (Go.bits .and .u64 a0 6148914691236517205))) / 4) 3689348814741910323) + (Go.bits .and .u64 (IntKind.u64.wrap ((Go.bits .and .u64 (a0 / 2) 6148914691236517205) + (Go.bits .and .u64 a0 6148914691236517205))) 3689348814741910323))) / 16) + (IntKind.u64.wrap ((Go.bits .and .u64 ((IntKind.u64.wrap ((Go.bits .and .u64 (a0 / 2) 6148914691236517205) + (Go.bits .and .u64 a0 6148914691236517205))) / 4) 3689348814741910323) + (Go.bits .and .u64 (IntKind.u64.wrap ((Go.bits .and .u64 (a0 / 2) 6148914691236517205) + (Go.bits .and .u64 a0 6148914691236517205))) 3689348814741910323))))) 1085102592571150095) / 256))) + ((IntKind.u64.wrap ((Go.bits .and .u64 (IntKind.u64.wrap (((IntKind.u64.wrap ((Go.bits .and .u64 ((IntKind.u64.wrap ((Go.bits .and .u64 (a0 / 2) 6148914691236517205) + (Go.bits .and .u64 a0 6148914691236517205))) / 4) 3689348814741910323) + (Go.bits .and .u64 (IntKind.u64.wrap ((Go.bits .and .u64 (a0 / 2) 6148914691236517205) + (Go.bits .and .u64 a0 6148914691236517205))) 3689348814741910323))) / 16) + (IntKind.u64.wrap ((Go.bits .and .u64 ((IntKind.u64.wrap ((Go.bits .and .u64 (a0 / 2) 6148914691236517205) + (Go.bits .and .u64 a0 6148914691236517205))) / 4) 3689348814741910323) + (Go.bits .and .u64 (IntKind.u64.wrap ((Go.bits .and .u64 (a0 / 2) 6148914691236517205) + (Go.bits .and .u64 a0 6148914691236517205))) 3689348814741910323))))) 1085102592571150095) + ((Go.bits .and .u64 (IntKind.u64.wrap (((IntKind.u64.wrap ((Go.bits .and .u64 ((IntKind.u64.wrap ((Go.bits .and .u64 (a0 / 2) 6148914691236517205) + (Go.bits .and .u64 a0 6148914691236517205))) / 4) 3689348814741910323) + (Go.bits .and .u64 (IntKind.u64.wrap ((Go.bits .and .u64 (a0 / 2) 6148914691236517205) + (Go.bits .and .u64 a0 6148914691236517205))) 3689348814741910323))) / 16) + (IntKind.u64.wrap ((Go.bits .and .u64 ((IntKind.u64.wrap ((Go.bits .and .u64 (a0 / 2) 6148914691236517205) + (Go.bits .and .u64 a0 6148914691236517205))) / 4) 3689348814741910323) + (Go.bits .and .u64 (IntKind.u64.wrap ((Go.bits .and .u64 (a0 / 2) 6148914691236517205) + (Go.bits .and .u64 a0 6148914691236517205))) 3689348814741910323))))) 1085102592571150095) / 256))) / 65536))) / 4294967296)))) 127)
set_option maxHeartbeats 8000000 in
set_option maxRecDepth 100000 in
theorem bits_OnesCount64.calls (a0 : Int) (r : Int) (w : World) (h : bits_OnesCount64.f a0 = some r) :
  Calls Tryd.prog 111 #[.int .u64 a0] w fun e w' => e = .returned (.int .i64 r) ∧ Drawn0 w w' := by
 have H : (some (Go.bits .and .i64 (wrap64 (IntKind.u64.wrap ((IntKind.u64.wrap ((IntKind.u64.wrap ((Go.bits .and .u64 (IntKind.u64.wrap (((IntKind.u64.wrap ((Go.bits .and .u64 ((IntKind.u64.wrap ((Go.bits .and .u64 (a0 / 2) 6148914691236517205) + (Go.bits .and .u64 a0 6148914691236517205))) / 4) 3689348814741910323) + (Go.bits .and .u64 (IntKind.u64.wrap ((Go.bits .and .u64 (a0 / 2) 6148914691236517205) + (Go.bits .and .u64 a0 6148914691236517205))) 3689348814741910323))) / 16) + (IntKind.u64.wrap ((Go.bits .and .u64 ((IntKind.u64.wrap ((Go.bits .and .u64 (a0 / 2) 6148914691236517205) + (Go.bits .and .u64 a0 6148914691236517205))) / 4) 3689348814741910323) + (Go.bits .and .u64 (IntKind.u64.wrap ((Go.bits .and .u64 (a0 / 2) 6148914691236517205) + (Go.bits .and .u64 a0 6148914691236517205))) 3689348814741910323))))) 1085102592571150095) + ((Go.bits .and .u64 (IntKind.u64.wrap (((IntKind.u64.wrap ((Go.bits .and .u64 ((IntKind.u64.wrap ((Go.bits .and .u64 (a0 / 2) 6148914691236517205) + (Go.bits .and .u64 a0 6148914691236517205))) / 4) 3689348814741910323) + (Go.bits .and .u64 (IntKind.u64.wrap ((Go.bits .and .u64 (a0 / 2) 6148914691236517205) + (Go.bits .and .u64 a0 6148914691236517205))) 3689348814741910323))) / 16) + (IntKind.u64.wrap ((Go.bits .and .u64 ((IntKind.u64.wrap ((Go.bits .and .u64 (a0 / 2) 6148914691236517205) + (Go.bits .and .u64 a0 6148914691236517205))) / 4) 3689348814741910323) + (Go.bits .and .u64 (IntKind.u64.wrap ((Go.bits .and .u64 (a0 / 2) 6148914691236517205) + (Go.bits .and .u64 a0 6148914691236517205))) 3689348814741910323))))) 1085102592571150095) / 256))) + ((IntKind.u64.wrap ((Go.bits .and .u64 (IntKind.u64.wrap (((IntKind.u64.wrap ((Go.bits .and .u64 ((IntKind.u64.wrap ((Go.bits .and .u64 (a0 / 2) 6148914691236517205) + (Go.bits .and .u64 a0 6148914691236517205))) / 4) 3689348814741910323) + (Go.bits .and .u64 (IntKind.u64.wrap ((Go.bits .and .u64 (a0 / 2) 6148914691236517205) + (Go.bits .and .u64 a0 6148914691236517205))) 3689348814741910323))) / 16) + (IntKind.u64.wrap ((Go.bits .and .u64 ((IntKind.u64.wrap ((Go.bits .and .u64 (a0 / 2) 6148914691236517205) + (Go.bits .and .u64 a0 6148914691236517205))) / 4) 3689348814741910323) + (Go.bits .and .u64 (IntKind.u64.wrap ((Go.bits .and .u64 (a0 / 2) 6148914691236517205) + (Go.bits .and .u64 a0 6148914691236517205))) 3689348814741910323))))) 1085102592571150095) + ((Go.bits .and .u64 (IntKind.u64.wrap (((IntKind.u64.wrap ((Go.bits .and .u64 ((IntKind.u64.wrap ((Go.bits .and .u64 (a0 / 2) 6148914691236517205) + (Go.bits .and .u64 a0 6148914691236517205))) / 4) 3689348814741910323) + (Go.bits .and .u64 (IntKind.u64.wrap ((Go.bits .and .u64 (a0 / 2) 6148914691236517205) + (Go.bits .and .u64 a0 6148914691236517205))) 3689348814741910323))) / 16) + (IntKind.u64.wrap ((Go.bits .and .u64 ((IntKind.u64.wrap ((Go.bits .and .u64 (a0 / 2) 6148914691236517205) + (Go.bits .and .u64 a0 6148914691236517205))) / 4) 3689348814741910323) + (Go.bits .and .u64 (IntKind.u64.wrap ((Go.bits .and .u64 (a0 / 2) 6148914691236517205) + (Go.bits .and .u64 a0 6148914691236517205))) 3689348814741910323))))) 1085102592571150095) / 256))) / 65536))) + ((IntKind.u64.wrap ((IntKind.u64.wrap ((Go.bits .and .u64 (IntKind.u64.wrap (((IntKind.u64.wrap ((Go.bits .and .u64 ((IntKind.u64.wrap ((Go.bits .and .u64 (a0 / 2) 6148914691236517205) + (Go.bits .and .u64 a0 6148914691236517205))) / 4) 3689348814741910323) + (Go.bits .and .u64 (IntKind.u64.wrap ((Go.bits .and .u64 (a0 / 2) 6148914691236517205) + (Go.bits .and .u64 a0 6148914691236517205))) 3689348814741910323))) / 16) + (IntKind.u64.wrap ((Go.bits .and .u64 ((IntKind.u64.wrap ((Go.bits .and .u64 (a0 / 2) 6148914691236517205) + (Go.bits .and .u64 a0 6148914691236517205))) / 4) 3689348814741910323) + (Go.bits .and .u64 (IntKind.u64.wrap ((Go.bits .and .u64 (a0 / 2) 6148914691236517205) + (Go.bits .and .u64 a0 6148914691236517205))) 3689348814741910323))))) 1085102592571150095) + ((Go.bits .and .u64 (IntKind.u64.wrap (((IntKind.u64.wrap ((Go.bits .and .u64 ((IntKind.u64.wrap ((Go.bits .and .u64 (a0 / 2) 6148914691236517205) + (Go.bits .and .u64 a0 6148914691236517205))) / 4) 3689348814741910323) + (Go.bits .and .u64 (IntKind.u64.wrap ((Go.bits .and .u64 (a0 / 2) 6148914691236517205) + (Go.bits .and .u64 a0 6148914691236517205))) 3689348814741910323))) / 16) + (IntKind.u64.wrap ((Go.bits .and .u64 ((IntKind.u64.wrap ((Go.bits .and .u64 (a0 / 2) 6148914691236517205) + (Go.bits .and .u64 a0 6148914691236517205))) / 4) 3689348814741910323) + (Go.bits .and .u64 (IntKind.u64.wrap ((Go.bits .and .u64 (a0 / 2) 6148914691236517205) + (Go.bits .and .u64 a0 6148914691236517205))) 3689348814741910323))))) 1085102592571150095) / 256))) + ((IntKind.u64.wrap ((Go.bits .and .u64 (IntKind.u64.wrap (((IntKind.u64.wrap ((Go.bits .and .u64 ((IntKind.u64.wrap ((Go.bits .and .u64 (a0 / 2) 6148914691236517205) + (Go.bits .and .u64 a0 6148914691236517205))) / 4) 3689348814741910323) + (Go.bits .and .u64 (IntKind.u64.wrap ((Go.bits .and .u64 (a0 / 2) 6148914691236517205) + (Go.bits .and .u64 a0 6148914691236517205))) 3689348814741910323))) / 16) + (IntKind.u64.wrap ((Go.bits .and .u64 ((IntKind.u64.wrap ((Go.bits .and .u64 (a0 / 2) 6148914691236517205) + (Go.bits .and .u64 a0 6148914691236517205))) / 4) 3689348814741910323) + (Go.bits .and .u64 (IntKind.u64.wrap ((Go.bits .and .u64 (a0 / 2) 6148914691236517205) + (Go.bits .and .u64 a0 6148914691236517205))) 3689348814741910323))))) 1085102592571150095) + ((Go.bits .and .u64 (IntKind.u64.wrap (((IntKind.u64.wrap ((Go.bits .and .u64 ((IntKind.u64.wrap ((Go.bits .and .u64 (a0 / 2) 6148914691236517205) + (Go.bits .and .u64 a0 6148914691236517205))) / 4) 3689348814741910323) + (Go.bits .and .u64 (IntKind.u64.wrap ((Go.bits .and .u64 (a0 / 2) 6148914691236517205) + (Go.bits .and .u64 a0 6148914691236517205))) 3689348814741910323))) / 16) + (IntKind.u64.wrap ((Go.bits .and .u64 ((IntKind.u64.wrap ((Go.bits .and .u64 (a0 / 2) 6148914691236517205) + (Go.bits .and .u64 a0 6148914691236517205))) / 4) 3689348814741910323) + (Go.bits .and .u64 (IntKind.u64.wrap ((Go.bits .and .u64 (a0 / 2) 6148914691236517205) + (Go.bits .and .u64 a0 6148914691236517205))) 3689348814741910323))))) 1085102592571150095) / 256))) / 65536))) / 4294967296)))) 127)) = some r := h
 clear h
 obtain rfl := Option.some.inj H
 go_enter Tryd.func111, Tryd.ntmps111
 go_wp2
 go_ret
 exact ⟨by first | rfl | (simp; done) | (simp [*]; done), by repeat (first | exact Drawn0.refl _ | apply Drawn0.step)⟩
def compact_RangeSize.f (a0 : Int) (a1 : Int) : Option (Int) := (compact_Decompose.f a0 a1).bind fun bt161 => ((bits_OnesCount64.f bt161.1).bind fun t163 => ((bits_OnesCount64.f bt161.2).bind fun t164 => (some (wrap64 (t163 + t164)))))
set_option maxHeartbeats 8000000 in
set_option maxRecDepth 100000 in
theorem compact_RangeSize.calls (a0 : Int) (a1 : Int) (r : Int) (w : World) (h : compact_RangeSize.f a0 a1 = some r) :
  Calls Tryd.prog 66 #[.int .u64 a0, .int .u64 a1] w fun e w' => e = .returned (.int .i64 r) ∧ Drawn0 w w' := by
 have H : ((compact_Decompose.f a0 a1).bind fun bt161 => ((bits_OnesCount64.f bt161.1).bind fun t163 => ((bits_OnesCount64.f bt161.2).bind fun t164 => (some (wrap64 (t163 + t164)))))) = some r := h
 clear h
 replace H := Option.bind_eq_some_iff.mp H
 obtain ⟨⟨t161, t162⟩, A30, H⟩ := H
 replace H : ((bits_OnesCount64.f t161).bind fun t163 => ((bits_OnesCount64.f t162).bind fun t164 => (some (wrap64 (t163 + t164))))) = some r := H
 have A3 := Aside0.mk A30
 clear A30
 replace H := Option.bind_eq_some_iff.mp H
 obtain ⟨t163, A40, H⟩ := H
 replace H : ((bits_OnesCount64.f t162).bind fun t164 => (some (wrap64 (t163 + t164)))) = some r := H
 have A4 := Aside0.mk A40
 clear A40
 replace H := Option.bind_eq_some_iff.mp H
 obtain ⟨t164, A50, H⟩ := H
 replace H : (some (wrap64 (t163 + t164))) = some r := H
 have A5 := Aside0.mk A50
 clear A50
 obtain rfl := Option.some.inj H
 go_enter Tryd.func66, Tryd.ntmps66
 go_wp2_with (first | ((with_reducible refine gate_callee (f := 108) rfl ?_); refine goesL_ (some 10) rfl rfl Tryd.func108 (by kernel_rfl) rfl #[.int .u64 a0, .int .u64 a1] rfl (by (try simp only [List.map_toArray, List.map_cons, List.map_nil]); first | done | rfl | (simp only [List.length_drop, List.length_take]; rfl)) ?_; (with_reducible refine (compact_Decompose.calls a0 a1 t161 t162 _ A3.out).mono ?_); rintro e w' ⟨rfl, ⟨nd, rfl⟩⟩; refine ⟨_, rfl, ?_⟩) | ((with_reducible refine gate_callee (f := 111) rfl ?_); refine goesL_ (some 14) rfl rfl Tryd.func111 (by kernel_rfl) rfl #[.int .u64 t161] rfl (by (try simp only [List.map_toArray, List.map_cons, List.map_nil]); first | done | rfl | (simp only [List.length_drop, List.length_take]; rfl)) ?_; (with_reducible refine (bits_OnesCount64.calls t161 t163 _ A4.out).mono ?_); rintro e w' ⟨rfl, ⟨nd, rfl⟩⟩; refine ⟨_, rfl, ?_⟩) | ((with_reducible refine gate_callee (f := 111) rfl ?_); refine goesL_ (some 16) rfl rfl Tryd.func111 (by kernel_rfl) rfl #[.int .u64 t162] rfl (by (try simp only [List.map_toArray, List.map_cons, List.map_nil]); first | done | rfl | (simp only [List.length_drop, List.length_take]; rfl)) ?_; (with_reducible refine (bits_OnesCount64.calls t162 t164 _ A5.out).mono ?_); rintro e w' ⟨rfl, ⟨nd, rfl⟩⟩; refine ⟨_, rfl, ?_⟩))
 go_ret
 exact ⟨by first | rfl | (simp; done) | (simp [*]; done), by repeat (first | exact Drawn0.refl _ | apply Drawn0.step)⟩
def compact_NodeID_Coverage.f (a0_0 : Int) (a0_1 : Int) : Option (Int × Int) := if 0 ≤ a0_0 then (some (shl .u64 a0_1 a0_0, shl .u64 (IntKind.u64.wrap (a0_1 + 1)) a0_0)) else (none)
set_option maxHeartbeats 8000000 in
set_option maxRecDepth 100000 in
theorem compact_NodeID_Coverage.calls (a0_0 : Int) (a0_1 : Int) (r1 : Int) (r2 : Int) (w : World) (h : compact_NodeID_Coverage.f a0_0 a0_1 = some (r1, r2)) :
  Calls Tryd.prog 132 #[.agg #[.int .u64 a0_0, .int .u64 a0_1]] w fun e w' => e = .returned (.tuple #[.int .u64 r1, .int .u64 r2]) ∧ Below w.heap.size w w' := by
 have hu107 := Tryd.underlying107
 have HB := Aside0.mk (Below.refl w.heap.size w)
 have H : (if 0 ≤ a0_0 then (some (shl .u64 a0_1 a0_0, shl .u64 (IntKind.u64.wrap (a0_1 + 1)) a0_0)) else (none)) = some (r1, r2) := h
 clear h
 by_cases c2 : 0 ≤ a0_0
 ·rw [if_pos c2] at H
  have c2b0 := eq_true c2
  have c2b1 : decide (0 ≤ a0_0) = true := decide_eq_true c2
  clear c2
  obtain ⟨ji3, hji3⟩ : ∃ j_ : Int, (shl .u64 a0_1 a0_0) = j_ := ⟨_, rfl⟩
  replace H : (some (ji3, shl .u64 (IntKind.u64.wrap (a0_1 + 1)) a0_0)) = some (r1, r2) := by first | (rw [hji3] at H; exact H) | (simp only [hji3] at H ⊢; exact H)
  have hji3_ : (IntKind.u64.wrap (a0_1 * 2 ^ min a0_0.toNat 64)) = ji3 := hji3
  have hji3z : a0_0 ≤ 64 → (IntKind.u64.wrap (a0_1 * 2 ^ a0_0.toNat)) = ji3 := shl_small hji3
  have c4b0 := eq_true (of_decide_eq_true (by first | (with_reducible assumption) | assumption) : 0 ≤ a0_0)
  obtain ⟨ji5, hji5⟩ : ∃ j_ : Int, (shl .u64 (IntKind.u64.wrap (a0_1 + 1)) a0_0) = j_ := ⟨_, rfl⟩
  replace H : (some (ji3, ji5)) = some (r1, r2) := by first | (rw [hji5] at H; exact H) | (simp only [hji5] at H ⊢; exact H)
  have hji5_ : (IntKind.u64.wrap ((IntKind.u64.wrap (a0_1 + 1)) * 2 ^ min a0_0.toNat 64)) = ji5 := hji5
  have hji5z : a0_0 ≤ 64 → (IntKind.u64.wrap ((IntKind.u64.wrap (a0_1 + 1)) * 2 ^ a0_0.toNat)) = ji5 := shl_small hji5
  simp only [Option.some.injEq, Prod.mk.injEq] at H
  obtain ⟨rfl, rfl⟩ := H
  go_enter Tryd.func132, Tryd.ntmps132
  go_wp2_with (first | ((with_reducible refine gate_dst (N := 1) rfl ?_); refine box_event ?hg (N := 1) ?hd (cs := #[.int .u64 a0_0, .int .u64 a0_1]) (t := 107) ?hr ?_; (case hd => rfl); (case hg => rfl); (case hr => first | (go_simp; done) | (go_simp; rfl)); intro gb165 hg w6 hbox hb; have n0_ := Aside0.mk (below_step (by repeat (first | (with_reducible first | exact HB.out | apply below_alloc | apply pw_below_drewN | apply below_drew1) | exact HB.out)) hb); have n1_ := Aside0.mk (hbox); have n2_ := Aside0.mk ((by rw [hg]; exact (below_size (by repeat (first | (with_reducible first | exact HB.out | apply below_alloc | apply pw_below_drewN | apply below_drew1) | exact HB.out))) : w.heap.size ≤ gb165)); have n3_ := Aside0.mk ((by rw [hg]; exact (below_size (by repeat (first | (with_reducible first | exact HB.out | apply below_alloc | apply pw_below_drewN | apply below_drew1) | exact HB.out))) : w.heap.size ≤ gb165)); clear HB; have HB := n0_; have BK165 := n1_; have GW165 := n2_; have GE165 := n3_; clear n0_ n1_ n2_ n3_; clear hb hbox hg; have hcz7_0 : w6.cell? ⟨gb165, 0, none⟩ = some (.int .u64 a0_0) := (blk_cell BK165.out 0).trans rfl; have hcz7_1 : w6.cell? ⟨gb165, 1, none⟩ = some (.int .u64 a0_1) := (blk_cell BK165.out 1).trans rfl; have hfz7_0 := blk_frozen BK165.out 0; have hfz7_1 := blk_frozen BK165.out 1))
  repeat (go_quiet (first | ((with_reducible refine gate_dst (N := 1) rfl ?_); refine box_event ?hg (N := 1) ?hd (cs := #[.int .u64 a0_0, .int .u64 a0_1]) (t := 107) ?hr ?_; (case hd => rfl); (case hg => rfl); (case hr => first | (go_simp; done) | (go_simp; rfl)); intro gb165 hg w6 hbox hb; have n0_ := Aside0.mk (below_step (by repeat (first | (with_reducible first | exact HB.out | apply below_alloc | apply pw_below_drewN | apply below_drew1) | exact HB.out)) hb); have n1_ := Aside0.mk (hbox); have n2_ := Aside0.mk ((by rw [hg]; exact (below_size (by repeat (first | (with_reducible first | exact HB.out | apply below_alloc | apply pw_below_drewN | apply below_drew1) | exact HB.out))) : w.heap.size ≤ gb165)); have n3_ := Aside0.mk ((by rw [hg]; exact (below_size (by repeat (first | (with_reducible first | exact HB.out | apply below_alloc | apply pw_below_drewN | apply below_drew1) | exact HB.out))) : w.heap.size ≤ gb165)); clear HB; have HB := n0_; have BK165 := n1_; have GW165 := n2_; have GE165 := n3_; clear n0_ n1_ n2_ n3_; clear hb hbox hg; have hcz7_0 : w6.cell? ⟨gb165, 0, none⟩ = some (.int .u64 a0_0) := (blk_cell BK165.out 0).trans rfl; have hcz7_1 : w6.cell? ⟨gb165, 1, none⟩ = some (.int .u64 a0_1) := (blk_cell BK165.out 1).trans rfl; have hfz7_0 := blk_frozen BK165.out 0; have hfz7_1 := blk_frozen BK165.out 1)); try go_wp2_with (first | ((with_reducible refine gate_dst (N := 1) rfl ?_); refine box_event ?hg (N := 1) ?hd (cs := #[.int .u64 a0_0, .int .u64 a0_1]) (t := 107) ?hr ?_; (case hd => rfl); (case hg => rfl); (case hr => first | (go_simp; done) | (go_simp; rfl)); intro gb165 hg w6 hbox hb; have n0_ := Aside0.mk (below_step (by repeat (first | (with_reducible first | exact HB.out | apply below_alloc | apply pw_below_drewN | apply below_drew1) | exact HB.out)) hb); have n1_ := Aside0.mk (hbox); have n2_ := Aside0.mk ((by rw [hg]; exact (below_size (by repeat (first | (with_reducible first | exact HB.out | apply below_alloc | apply pw_below_drewN | apply below_drew1) | exact HB.out))) : w.heap.size ≤ gb165)); have n3_ := Aside0.mk ((by rw [hg]; exact (below_size (by repeat (first | (with_reducible first | exact HB.out | apply below_alloc | apply pw_below_drewN | apply below_drew1) | exact HB.out))) : w.heap.size ≤ gb165)); clear HB; have HB := n0_; have BK165 := n1_; have GW165 := n2_; have GE165 := n3_; clear n0_ n1_ n2_ n3_; clear hb hbox hg; have hcz7_0 : w6.cell? ⟨gb165, 0, none⟩ = some (.int .u64 a0_0) := (blk_cell BK165.out 0).trans rfl; have hcz7_1 : w6.cell? ⟨gb165, 1, none⟩ = some (.int .u64 a0_1) := (blk_cell BK165.out 1).trans rfl; have hfz7_0 := blk_frozen BK165.out 0; have hfz7_1 := blk_frozen BK165.out 1)))
  go_ret2
  exact ⟨by first | rfl | (simp [errW_none, errW_some] <;> rfl) | (simp only [← hji3, ← hji5]; first | rfl | (simp [errW_none, errW_some] <;> rfl)) | (simp [*, errW_none, errW_some] <;> rfl), by repeat (first | (with_reducible first | exact HB.out | apply below_alloc | apply pw_below_drewN | apply below_drew1 | refine below_set ?_ GE165.out) | exact HB.out)⟩
 ·rw [if_neg c2] at H
  exact absurd H (by simp)
def compact_NodeID_Parent.f (a0_0 : Int) (a0_1 : Int) : Option (Int × Int) := (compact_NewNodeID.f (IntKind.u64.wrap (a0_0 + 1)) (a0_1 / 2)).bind fun bt168 => (some (bt168.1, bt168.2))
set_option maxHeartbeats 8000000 in
set_option maxRecDepth 100000 in
theorem compact_NodeID_Parent.calls (a0_0 : Int) (a0_1 : Int) (r1 : Int) (r2 : Int) (w : World) (h : compact_NodeID_Parent.f a0_0 a0_1 = some (r1, r2)) :
  Calls Tryd.prog 133 #[.agg #[.int .u64 a0_0, .int .u64 a0_1]] w fun e w' => e = .returned (.agg #[.int .u64 r1, .int .u64 r2]) ∧ Below w.heap.size w w' := by
 have hu107 := Tryd.underlying107
 have HB := Aside0.mk (Below.refl w.heap.size w)
 have H : ((compact_NewNodeID.f (IntKind.u64.wrap (a0_0 + 1)) (a0_1 / 2)).bind fun bt168 => (some (bt168.1, bt168.2))) = some (r1, r2) := h
 clear h
 replace H := Option.bind_eq_some_iff.mp H
 obtain ⟨⟨t168, t169⟩, A20, H⟩ := H
 replace H : (some (t168, t169)) = some (r1, r2) := H
 have A2 := Aside0.mk A20
 clear A20
 simp only [Option.some.injEq, Prod.mk.injEq] at H
 obtain ⟨rfl, rfl⟩ := H
 go_enter Tryd.func133, Tryd.ntmps133
 go_wp2_with (first | ((with_reducible refine gate_dst (N := 1) rfl ?_); refine box_event ?hg (N := 1) ?hd (cs := #[.int .u64 a0_0, .int .u64 a0_1]) (t := 107) ?hr ?_; (case hd => rfl); (case hg => rfl); (case hr => first | (go_simp; done) | (go_simp; rfl)); intro gb166 hg w3 hbox hb; have n0_ := Aside0.mk (below_step (by repeat (first | (with_reducible first | exact HB.out | apply below_alloc | apply pw_below_drewN | apply below_drew1) | exact HB.out)) hb); have n1_ := Aside0.mk (hbox); have n2_ := Aside0.mk ((by rw [hg]; exact (below_size (by repeat (first | (with_reducible first | exact HB.out | apply below_alloc | apply pw_below_drewN | apply below_drew1) | exact HB.out))) : w.heap.size ≤ gb166)); have n3_ := Aside0.mk ((by rw [hg]; exact (below_size (by repeat (first | (with_reducible first | exact HB.out | apply below_alloc | apply pw_below_drewN | apply below_drew1) | exact HB.out))) : w.heap.size ≤ gb166)); clear HB; have HB := n0_; have BK166 := n1_; have GW166 := n2_; have GE166 := n3_; clear n0_ n1_ n2_ n3_; clear hb hbox hg) | ((with_reducible refine gate_dst (N := 2) rfl ?_); refine box_event ?hg (N := 2) ?hd (cs := #[.int .u64 0, .int .u64 0]) (t := 107) ?hr ?_; (case hd => rfl); (case hg => rfl); (case hr => first | (go_simp; done) | (go_simp; rfl)); intro gb167 hg w4 hbox hb; have n0_ := Aside0.mk (blk_below (g := gb166) (o := .cells #[.int .u64 a0_0, .int .u64 a0_1] 107 (0, 0)) (by (with_reducible repeat (first | refine blk_drewN ?_ _ | refine blk_drew ?_ | refine blk_alloc ?_ _)); exact BK166.out) hb); have n1_ := Aside0.mk (below_step (by repeat (first | (with_reducible first | exact HB.out | apply below_alloc | apply pw_below_drewN | apply below_drew1 | refine below_set ?_ GE166.out) | exact HB.out)) hb); have n2_ := Aside0.mk (hbox); have n3_ := Aside0.mk ((by rw [hg]; exact (below_size (by repeat (first | (with_reducible first | exact HB.out | apply below_alloc | apply pw_below_drewN | apply below_drew1 | refine below_set ?_ GE166.out) | exact HB.out))) : w.heap.size ≤ gb167)); have n4_ := Aside0.mk ((by rw [hg]; exact (below_size (by repeat (first | (with_reducible first | exact HB.out | apply below_alloc | apply pw_below_drewN | apply below_drew1 | refine below_set ?_ GE166.out) | exact HB.out))) : w.heap.size ≤ gb167)); have n5_ := Aside0.mk ((by rw [hg]; exact Nat.ne_of_lt (blk_lt (g := gb166) (o := .cells #[.int .u64 a0_0, .int .u64 a0_1] 107 (0, 0)) (by (with_reducible repeat (first | refine blk_drewN ?_ _ | refine blk_drew ?_ | refine blk_alloc ?_ _)); exact BK166.out)) : gb166 ≠ gb167)); have n6_ := Aside0.mk ((by rw [hg]; exact Nat.ne_of_gt (blk_lt (g := gb166) (o := .cells #[.int .u64 a0_0, .int .u64 a0_1] 107 (0, 0)) (by (with_reducible repeat (first | refine blk_drewN ?_ _ | refine blk_drew ?_ | refine blk_alloc ?_ _)); exact BK166.out)) : gb167 ≠ gb166)); clear BK166; clear HB; have BK166 := n0_; have HB := n1_; have BK167 := n2_; have GW167 := n3_; have GE167 := n4_; have NB166_167 := n5_; have NB167_166 := n6_; clear n0_ n1_ n2_ n3_ n4_ n5_ n6_; clear hb hbox hg; have hnb5 := NB166_167.out; have hnc5 := NB167_166.out; have hcz6_0 : w4.cell? ⟨gb166, 0, none⟩ = some (.int .u64 a0_0) := (blk_cell BK166.out 0).trans rfl; have hcz6_1 : w4.cell? ⟨gb166, 1, none⟩ = some (.int .u64 a0_1) := (blk_cell BK166.out 1).trans rfl; have hfz6_0 := blk_frozen BK166.out 0; have hfz6_1 := blk_frozen BK166.out 1) | ((with_reducible refine gate_callee (f := 107) rfl ?_); refine goesL_ (some 9) rfl rfl Tryd.func107 (by kernel_rfl) rfl #[.int .u64 (IntKind.u64.wrap (a0_0 + 1)), .int .u64 (a0_1 / 2)] rfl (by (try simp only [List.map_toArray, List.map_cons, List.map_nil]); first | done | rfl | (simp only [List.length_drop, List.length_take]; rfl)) ?_; (with_reducible refine (compact_NewNodeID.calls (IntKind.u64.wrap (a0_0 + 1)) (a0_1 / 2) t168 t169 _ A2.out).mono ?_); rintro e w7 ⟨rfl, hb⟩; refine ⟨_, rfl, ?_⟩; have n0_ := Aside0.mk (blk_below (g := gb166) (o := .cells #[.int .u64 a0_0, .int .u64 a0_1] 107 (0, 0)) (by (with_reducible repeat (first | refine blk_drewN ?_ _ | refine blk_drew ?_ | refine blk_alloc ?_ _)); exact BK166.out) hb); have n1_ := Aside0.mk (blk_below (g := gb167) (o := .cells #[.int .u64 0, .int .u64 0] 107 (0, 0)) (by (with_reducible repeat (first | refine blk_drewN ?_ _ | refine blk_drew ?_ | refine blk_alloc ?_ _)); exact BK167.out) hb); have n2_ := Aside0.mk (below_step (by repeat (first | (with_reducible first | exact HB.out | apply below_alloc | apply pw_below_drewN | apply below_drew1 | refine below_set ?_ GE166.out | refine below_set ?_ GE167.out) | exact HB.out)) hb); clear BK166; clear BK167; clear HB; have BK166 := n0_; have BK167 := n1_; have HB := n2_; clear n0_ n1_ n2_; (try clear hb); (try clear hb2); (try clear hk); (try clear hi); have hcz8_0 : w7.cell? ⟨gb167, 0, none⟩ = some (.int .u64 0) := (blk_cell BK167.out 0).trans rfl; have hcz8_1 : w7.cell? ⟨gb167, 1, none⟩ = some (.int .u64 0) := (blk_cell BK167.out 1).trans rfl; have hfz8_0 := blk_frozen BK167.out 0; have hfz8_1 := blk_frozen BK167.out 1))
 refine bodyPost_ret (results_cell_row rfl _ _ gb167 107 #[.int .u64 t168, .int .u64 t169] (0, 0) _ rfl (by (with_reducible repeat (first | refine blk_drewN ?_ _ | refine blk_drew ?_ | refine blk_alloc ?_ _)); refine blk_put (cs := #[.int .u64 t168, .int .u64 0]) ?_ 1 _ rfl; (with_reducible repeat (first | refine blk_drewN ?_ _ | refine blk_drew ?_ | refine blk_alloc ?_ _)); refine blk_put (cs := #[.int .u64 0, .int .u64 0]) ?_ 0 _ rfl; (with_reducible repeat (first | refine blk_drewN ?_ _ | refine blk_drew ?_ | refine blk_alloc ?_ _)); exact BK167.out) Tryd.underlying107 rfl (by kernel_rfl)) rfl ?_
 exact ⟨by first | rfl | (simp [errW_none, errW_some] <;> rfl) | (simp [*, errW_none, errW_some] <;> rfl), by repeat (first | (with_reducible first | exact HB.out | apply below_alloc | apply pw_below_drewN | apply below_drew1 | refine below_set ?_ GE166.out | refine below_set ?_ GE167.out) | exact HB.out)⟩
def compact_NodeID_Sibling.f (a0_0 : Int) (a0_1 : Int) : Option (Int × Int) := (compact_NewNodeID.f a0_0 (Go.bits .xor .u64 a0_1 1)).bind fun bt172 => (some (bt172.1, bt172.2))
set_option maxHeartbeats 8000000 in
set_option maxRecDepth 100000 in
theorem compact_NodeID_Sibling.calls (a0_0 : Int) (a0_1 : Int) (r1 : Int) (r2 : Int) (w : World) (h : compact_NodeID_Sibling.f a0_0 a0_1 = some (r1, r2)) :
  Calls Tryd.prog 134 #[.agg #[.int .u64 a0_0, .int .u64 a0_1]] w fun e w' => e = .returned (.agg #[.int .u64 r1, .int .u64 r2]) ∧ Below w.heap.size w w' := by
 have hu107 := Tryd.underlying107
 have HB := Aside0.mk (Below.refl w.heap.size w)
 have H : ((compact_NewNodeID.f a0_0 (Go.bits .xor .u64 a0_1 1)).bind fun bt172 => (some (bt172.1, bt172.2))) = some (r1, r2) := h
 clear h
 replace H := Option.bind_eq_some_iff.mp H
 obtain ⟨⟨t172, t173⟩, A20, H⟩ := H
 replace H : (some (t172, t173)) = some (r1, r2) := H
 have A2 := Aside0.mk A20
 clear A20
 simp only [Option.some.injEq, Prod.mk.injEq] at H
 obtain ⟨rfl, rfl⟩ := H
 go_enter Tryd.func134, Tryd.ntmps134
 go_wp2_with (first | ((with_reducible refine gate_dst (N := 1) rfl ?_); refine box_event ?hg (N := 1) ?hd (cs := #[.int .u64 a0_0, .int .u64 a0_1]) (t := 107) ?hr ?_; (case hd => rfl); (case hg => rfl); (case hr => first | (go_simp; done) | (go_simp; rfl)); intro gb170 hg w3 hbox hb; have n0_ := Aside0.mk (below_step (by repeat (first | (with_reducible first | exact HB.out | apply below_alloc | apply pw_below_drewN | apply below_drew1) | exact HB.out)) hb); have n1_ := Aside0.mk (hbox); have n2_ := Aside0.mk ((by rw [hg]; exact (below_size (by repeat (first | (with_reducible first | exact HB.out | apply below_alloc | apply pw_below_drewN | apply below_drew1) | exact HB.out))) : w.heap.size ≤ gb170)); have n3_ := Aside0.mk ((by rw [hg]; exact (below_size (by repeat (first | (with_reducible first | exact HB.out | apply below_alloc | apply pw_below_drewN | apply below_drew1) | exact HB.out))) : w.heap.size ≤ gb170)); clear HB; have HB := n0_; have BK170 := n1_; have GW170 := n2_; have GE170 := n3_; clear n0_ n1_ n2_ n3_; clear hb hbox hg) | ((with_reducible refine gate_dst (N := 2) rfl ?_); refine box_event ?hg (N := 2) ?hd (cs := #[.int .u64 0, .int .u64 0]) (t := 107) ?hr ?_; (case hd => rfl); (case hg => rfl); (case hr => first | (go_simp; done) | (go_simp; rfl)); intro gb171 hg w4 hbox hb; have n0_ := Aside0.mk (blk_below (g := gb170) (o := .cells #[.int .u64 a0_0, .int .u64 a0_1] 107 (0, 0)) (by (with_reducible repeat (first | refine blk_drewN ?_ _ | refine blk_drew ?_ | refine blk_alloc ?_ _)); exact BK170.out) hb); have n1_ := Aside0.mk (below_step (by repeat (first | (with_reducible first | exact HB.out | apply below_alloc | apply pw_below_drewN | apply below_drew1 | refine below_set ?_ GE170.out) | exact HB.out)) hb); have n2_ := Aside0.mk (hbox); have n3_ := Aside0.mk ((by rw [hg]; exact (below_size (by repeat (first | (with_reducible first | exact HB.out | apply below_alloc | apply pw_below_drewN | apply below_drew1 | refine below_set ?_ GE170.out) | exact HB.out))) : w.heap.size ≤ gb171)); have n4_ := Aside0.mk ((by rw [hg]; exact (below_size (by repeat (first | (with_reducible first | exact HB.out | apply below_alloc | apply pw_below_drewN | apply below_drew1 | refine below_set ?_ GE170.out) | exact HB.out))) : w.heap.size ≤ gb171)); have n5_ := Aside0.mk ((by rw [hg]; exact Nat.ne_of_lt (blk_lt (g := gb170) (o := .cells #[.int .u64 a0_0, .int .u64 a0_1] 107 (0, 0)) (by (with_reducible repeat (first | refine blk_drewN ?_ _ | refine blk_drew ?_ | refine blk_alloc ?_ _)); exact BK170.out)) : gb170 ≠ gb171)); have n6_ := Aside0.mk ((by rw [hg]; exact Nat.ne_of_gt (blk_lt (g := gb170) (o := .cells #[.int .u64 a0_0, .int .u64 a0_1] 107 (0, 0)) (by (with_reducible repeat (first | refine blk_drewN ?_ _ | refine blk_drew ?_ | refine blk_alloc ?_ _)); exact BK170.out)) : gb171 ≠ gb170)); clear BK170; clear HB; have BK170 := n0_; have HB := n1_; have BK171 := n2_; have GW171 := n3_; have GE171 := n4_; have NB170_171 := n5_; have NB171_170 := n6_; clear n0_ n1_ n2_ n3_ n4_ n5_ n6_; clear hb hbox hg; have hnb5 := NB170_171.out; have hnc5 := NB171_170.out; have hcz6_0 : w4.cell? ⟨gb170, 0, none⟩ = some (.int .u64 a0_0) := (blk_cell BK170.out 0).trans rfl; have hcz6_1 : w4.cell? ⟨gb170, 1, none⟩ = some (.int .u64 a0_1) := (blk_cell BK170.out 1).trans rfl; have hfz6_0 := blk_frozen BK170.out 0; have hfz6_1 := blk_frozen BK170.out 1) | ((with_reducible refine gate_callee (f := 107) rfl ?_); refine goesL_ (some 8) rfl rfl Tryd.func107 (by kernel_rfl) rfl #[.int .u64 a0_0, .int .u64 (Go.bits .xor .u64 a0_1 1)] rfl (by (try simp only [List.map_toArray, List.map_cons, List.map_nil]); first | done | rfl | (simp only [List.length_drop, List.length_take]; rfl)) ?_; (with_reducible refine (compact_NewNodeID.calls a0_0 (Go.bits .xor .u64 a0_1 1) t172 t173 _ A2.out).mono ?_); rintro e w7 ⟨rfl, hb⟩; refine ⟨_, rfl, ?_⟩; have n0_ := Aside0.mk (blk_below (g := gb170) (o := .cells #[.int .u64 a0_0, .int .u64 a0_1] 107 (0, 0)) (by (with_reducible repeat (first | refine blk_drewN ?_ _ | refine blk_drew ?_ | refine blk_alloc ?_ _)); exact BK170.out) hb); have n1_ := Aside0.mk (blk_below (g := gb171) (o := .cells #[.int .u64 0, .int .u64 0] 107 (0, 0)) (by (with_reducible repeat (first | refine blk_drewN ?_ _ | refine blk_drew ?_ | refine blk_alloc ?_ _)); exact BK171.out) hb); have n2_ := Aside0.mk (below_step (by repeat (first | (with_reducible first | exact HB.out | apply below_alloc | apply pw_below_drewN | apply below_drew1 | refine below_set ?_ GE170.out | refine below_set ?_ GE171.out) | exact HB.out)) hb); clear BK170; clear BK171; clear HB; have BK170 := n0_; have BK171 := n1_; have HB := n2_; clear n0_ n1_ n2_; (try clear hb); (try clear hb2); (try clear hk); (try clear hi); have hcz8_0 : w7.cell? ⟨gb171, 0, none⟩ = some (.int .u64 0) := (blk_cell BK171.out 0).trans rfl; have hcz8_1 : w7.cell? ⟨gb171, 1, none⟩ = some (.int .u64 0) := (blk_cell BK171.out 1).trans rfl; have hfz8_0 := blk_frozen BK171.out 0; have hfz8_1 := blk_frozen BK171.out 1))
 refine bodyPost_ret (results_cell_row rfl _ _ gb171 107 #[.int .u64 t172, .int .u64 t173] (0, 0) _ rfl (by (with_reducible repeat (first | refine blk_drewN ?_ _ | refine blk_drew ?_ | refine blk_alloc ?_ _)); refine blk_put (cs := #[.int .u64 t172, .int .u64 0]) ?_ 1 _ rfl; (with_reducible repeat (first | refine blk_drewN ?_ _ | refine blk_drew ?_ | refine blk_alloc ?_ _)); refine blk_put (cs := #[.int .u64 0, .int .u64 0]) ?_ 0 _ rfl; (with_reducible repeat (first | refine blk_drewN ?_ _ | refine blk_drew ?_ | refine blk_alloc ?_ _)); exact BK171.out) Tryd.underlying107 rfl (by kernel_rfl)) rfl ?_
 exact ⟨by first | rfl | (simp [errW_none, errW_some] <;> rfl) | (simp [*, errW_none, errW_some] <;> rfl), by repeat (first | (with_reducible first | exact HB.out | apply below_alloc | apply pw_below_drewN | apply below_drew1 | refine below_set ?_ GE170.out | refine below_set ?_ GE171.out) | exact HB.out)⟩
end Go.Proofs.YtijldedhcjkhiaaDoor.I
