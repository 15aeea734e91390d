import Derived.Test.YtijldedhcjkhiaaDoorSI0
namespace Go.Proofs.YtijldedhcjkhiaaDoor.I
open Go.RowKit Go.Proofs.YtijldedhcjkhiaaDoorW.PrintWords Go.Proofs.YtijldedhcjkhiaaDoorW.PrintLast Go.Proofs.YtijldedhcjkhiaaDoorW.PrintMore
attribute [local go_sem] max2_int min2_int max_two min_two max_three min_three max_four min_four   -- for this text's walks alone
set_option linter.unusedVariables false
set_option linter.unusedSimpArgs false
def proof_reverse.l0 : Nat → List (S107) → Int → Int → Option ((List (S107)))
 | 0, _, _, _ => none
 | k + 1, x0, x2, x3 => if x2 < x3 then (if 0 ≤ x3 then (if x3 < (x0.length : Int) then (if 0 ≤ x2 then (if x2 < (x0.length : Int) then (proof_reverse.l0 k ((x0.set (x2 : Int).toNat (⟨(rd_T107 x0 x3).f0, (rd_T107 x0 x3).f1⟩ : S107)).set (x3 : Int).toNat (⟨(rd_T107 x0 x2).f0, (rd_T107 x0 x2).f1⟩ : S107)) (wrap64 (x2 + 1)) (wrap64 (x3 - 1))) else (none)) else (none)) else (none)) else (none)) else (some x0)
def proof_reverse.f (k : Nat) (l0 : List (S107)) : Option ((List (S107))) := proof_reverse.l0 k l0 0 (wrap64 ((l0.length : Int) - 1))
theorem proof_reverse.mono_l : ∀ k, (∀ y0 y1 y2, LeO (proof_reverse.l0 k y0 y1 y2) (proof_reverse.l0 (k + 1) y0 y1 y2))
 | 0 => fun _ _ _ r h => by simp [proof_reverse.l0] at h
 | k + 1 => by
  have ih0 := proof_reverse.mono_l k
  ·intro y0 y1 y2
   unfold proof_reverse.l0
   repeat' first
   | (with_reducible exact ih0 _ _ _)
   | (with_reducible exact LeO.refl _)
   | (with_reducible exact LeO.none _)
   | (with_reducible refine LeO.ite ?_ ?_)
   | (with_reducible refine LeO.bind ?_ (fun _ => ?_))
   | exact ih0 _ _ _
   | exact LeO.none _
   | refine LeO.ite ?_ ?_
   | refine LeO.bind ?_ (fun _ => ?_)
theorem proof_reverse.mono : ∀ a0 k, LeO (proof_reverse.f k a0) (proof_reverse.f (k + 1) a0) := by
 intro a0 k
 have ih0 := proof_reverse.mono_l k
 unfold proof_reverse.f
 repeat' first
   | (with_reducible exact ih0 _ _ _)
   | (with_reducible exact LeO.refl _)
   | (with_reducible exact LeO.none _)
   | (with_reducible refine LeO.ite ?_ ?_)
   | (with_reducible refine LeO.bind ?_ (fun _ => ?_))
   | exact ih0 _ _ _
   | exact LeO.none _
   | refine LeO.ite ?_ ?_
   | refine LeO.bind ?_ (fun _ => ?_)
def proof_reverse.T3 : Bool × List (List Nat × List Nat) := (true, [([], []), ([], []), ([], []), ([], []), ([], []), ([], []), ([4, 5], [4, 5]), ([6], [6]), ([], []), ([], []), ([8, 9], [8, 9]), ([10], [10]), ([0, 1, 0, 1, 4, 5, 6, 7, 11], [0, 1]), ([12, 7, 0, 1, 4, 5, 6, 7, 11], [7, 12]), ([2, 3, 0, 1, 2, 3, 4, 5, 6, 7, 8, 9, 10, 11, 12, 13], [2, 3]), ([14, 11, 13, 0, 1, 2, 3, 4, 5, 6, 7, 8, 9, 10, 11, 12, 13], [11, 14])])
def proof_reverse.B3 : List Nat := [0, 0, 0, 0, 0, 0, 48, 112, 0, 0, 768, 1792, 4083, 8179, 16383, 32767]
theorem proof_reverse.tab3 : rtab .any (opsOf Tryd.f135 3) = proof_reverse.T3 := by kernel_rfl
theorem proof_reverse.bits3 : waitsOk proof_reverse.T3.2 proof_reverse.B3 = true := by kernel_rfl
theorem proof_reverse_cut.cells {W : World} {base g N C : Nat} {ok : Nat → Prop} {pre xs : List S107} (h : Kd.R k107 107 W base ok (.slice (some ⟨g, 0, none⟩) N C) (pre ++ xs)) (i : Int) (h0 : 0 ≤ i) (h1 : i < (xs.length : Int)) :
  W.cell? ⟨g, pre.length * 2 + i.toNat * 2, none⟩ = some (.int .u64 (rd_T107 xs i).f0) ∧ W.cell? ⟨g, pre.length * 2 + i.toNat * 2 + 1, none⟩ = some (.int .u64 (rd_T107 xs i).f1) ∧ W.frozen? ⟨g, pre.length * 2 + i.toNat * 2, none⟩ = false ∧ W.frozen? ⟨g, pre.length * 2 + i.toNat * 2 + 1, none⟩ = false := by
 have hn := (Kd.R_reads' h).1
 obtain ⟨n, rfl⟩ := Int.eq_ofNat_of_zero_le h0
 obtain ⟨ce, hcl, hM, hcc, hfr⟩ := Kd.R_elem h z107 ((pre.length + n : Nat) : Int) (by omega) (by rw [hn]; simp; omega)
 obtain rfl := k107_openM hM
 have hg : (pre ++ xs).getD (pre.length + n) z107 = rd_T107 xs (n : Int) := by
  unfold rd_T107
  rw [List.getD_eq_getElem?_getD, List.getD_eq_getElem?_getD, List.getElem?_append_right (by omega)]
  simp
 have hm : ((pre.length + n : Nat) : Int).toNat * k107.sz = pre.length * 2 + n * 2 := by show (pre.length + n) * 2 = _; omega
 have c0 := hcc 0 _ rfl
 have c1 := hcc 1 _ rfl
 have f0 := hfr 0
 have f1 := hfr 1
 rw [hm] at c0 c1 f0 f1
 simp only [Int.toNat_natCast] at c0 c1 f0 f1 ⊢
 rw [hg] at c0 c1
 exact ⟨c0, c1, f0, f1⟩
theorem proof_reverse_cut.put {W : World} {base g N C : Nat} {ok : Nat → Prop} {pre xs : List S107} (h : Kd.R k107 107 W base ok (.slice (some ⟨g, 0, none⟩) N C) (pre ++ xs)) (i : Int) (h0 : 0 ≤ i) (h1 : i < (xs.length : Int)) (x' : S107) :
  Kd.R k107 107 (W.setCells g (pre.length * 2 + i.toNat * 2) [.int .u64 x'.f0, .int .u64 x'.f1]) base ok (.slice (some ⟨g, 0, none⟩) N C) (pre ++ xs.set i.toNat x') := by
 have hn := (Kd.R_reads' h).1
 obtain ⟨n, rfl⟩ := Int.eq_ofNat_of_zero_le h0
 obtain ⟨ce, hcl, hM, hcc, hfr⟩ := Kd.R_elem h z107 ((pre.length + n : Nat) : Int) (by omega) (by rw [hn]; simp; omega)
 obtain rfl := k107_openM hM
 have hp := (Kd.R_seg h ((pre.length + n : Nat) : Int) (by omega) (by rw [hn]; simp; omega) (seg := [.int .u64 x'.f0, .int .u64 x'.f1]) (j := 0) hcl hcc (show 2 ≤ 2 from by decide) (x' := x') (k107_mkM _ _ _ x') (fun _ hk => hk)).1
 have hm : ((pre.length + n : Nat) : Int).toNat * k107.sz + 0 = pre.length * 2 + n * 2 := by show (pre.length + n) * 2 = _; omega
 have hs : (pre ++ xs).set ((pre.length + n : Nat) : Int).toNat x' = pre ++ xs.set n x' := by
  rw [Int.toNat_natCast, List.set_append_right _ _ (by omega), Nat.add_sub_cancel_left]
 rw [hm, hs] at hp
 exact hp
set_option maxHeartbeats 8000000 in
set_option maxRecDepth 100000 in
theorem proof_reverse_cut.core (k : Nat) (P0_ : Nat → Prop) (u9000_ : Value) (co2 : Nat) (A8 : Option Addr) (pre l0 r : List S107) (w0 w : World) (hB : Below w0.heap.size w0 w) (hA8 : ∀ g n c, u9000_ = .slice (some ⟨g, 0, none⟩) n c → l0 ≠ [] → A8 = some ⟨g, pre.length * 2, none⟩) (ho0 : Kd.R k107 107 w w0.heap.size P0_ u9000_ (pre ++ l0)) (h : proof_reverse.f k l0 = some r) :
  Calls Tryd.prog 135 #[.slice A8 l0.length co2] w fun e w' => e = .returned (.tuple #[]) ∧ Kd.R k107 107 w' w0.heap.size (fun k_ => (P0_ k_ ∨ w.heap.size ≤ k_)) u9000_ (pre ++ r) ∧ Below w0.heap.size w0 w' ∧ Kept w w' (fun k_ => P0_ k_) := by
 have hu107 := Tryd.underlying107
 have HO0 := Aside0.mk (show Kd.R k107 107 w w0.heap.size (fun k_ => (P0_ k_ ∨ w.heap.size ≤ k_)) u9000_ (pre ++ l0) from Kd.R_mono ho0 (fun k_ hk => (.inl hk)))
 have HK := Aside0.mk (Kept.refl w (fun k_ => P0_ k_))
 have HW0 := Aside0.mk hB.size
 have HB := Aside0.mk hB
 clear hB
 have H : (proof_reverse.l0 k l0 0 (wrap64 ((l0.length : Int) - 1))) = some r := h
 clear h
 have H' := Aside0.mk H
 clear H
 go_enter Tryd.func135, Tryd.ntmps135
 go_wp2
 try simp only [Act.put, List.setIfInBounds_toArray, List.set_cons_zero, List.set_cons_succ]
 go_loopg [2, 3] k (fun kq v2 v3 w' => ∃ (x0_1 : List (S107)) (x2_1 : Int) (x3_1 : Int), v2 = .int .i64 x2_1 ∧ v3 = .int .i64 x3_1 ∧ Aside0 (proof_reverse.l0 kq x0_1 x2_1 x3_1 = some r) ∧ Aside0 (kq ≤ k) ∧ Aside0 (Kd.R k107 107 w' w0.heap.size (fun k_ => (P0_ k_ ∨ w.heap.size ≤ k_)) u9000_ (pre ++ x0_1)) ∧ Aside0 (l0.length = x0_1.length) ∧ Aside0 (Kept w w' (fun k_ => P0_ k_)) ∧ Aside0 (Below w0.heap.size w0 w'))
 case atStart => exact ⟨(l0), (0), (wrap64 ((l0.length : Int) - 1)), (by first | rfl | (simp; done) | (simp [*]; done)), (by first | rfl | (simp; done) | (simp [*]; done)), H', ⟨Nat.le_refl _⟩, ⟨by (with_reducible repeat (first | apply Kd.R_alloc | apply Kd.R_drewN | apply Kd.R_drew)); exact HO0.out⟩, ⟨rfl⟩, ⟨by repeat (first | (with_reducible first | exact HK.out | apply Kept.alloc | apply Kept.drewN | apply Kept.drew) | exact HK.out)⟩, ⟨by repeat (first | (with_reducible first | exact HB.out | apply below_alloc | apply pw_below_drewN | apply below_drew1) | exact HB.out)⟩⟩
 case round =>
  clear H'
  try clear c1
  try clear p2
  obtain ⟨x0_1, x2_1, x3_1, rfl, rfl, HA, HK1, HO_0, HL_, HK, HB⟩ := hrel
  have hl0_1 := HL_.out
  (try simp only [hl0_1])
  cases gk with
  | zero => exact absurd HA.out (by simp [proof_reverse.l0])
  | succ k1 =>
   have H := HA.out
   clear HA
   simp only [proof_reverse.l0] at H
   by_cases c3 : x2_1 < x3_1
   ·rw [if_pos c3] at H
    have c3b0 : decide (x2_1 < x3_1) = true := decide_eq_true c3
    clear c3
    by_cases c4 : 0 ≤ x3_1
    ·rw [if_pos c4] at H
     have c4b0 : decide (0 ≤ x3_1) = true := decide_eq_true c4
     clear c4
     by_cases c5 : x3_1 < (x0_1.length : Int)
     ·rw [if_pos c5] at H
      have c5b0 : decide (x3_1 < (x0_1.length : Int)) = true := decide_eq_true c5
      clear c5
      by_cases c6 : 0 ≤ x2_1
      ·rw [if_pos c6] at H
       have c6b0 : decide (0 ≤ x2_1) = true := decide_eq_true c6
       clear c6
       by_cases c7 : x2_1 < (x0_1.length : Int)
       ·rw [if_pos c7] at H
        have c7b0 : decide (x2_1 < (x0_1.length : Int)) = true := decide_eq_true c7
        clear c7
        obtain ⟨y176, hy176⟩ : ∃ y_ : List (S107), y_ = (x0_1.set (x2_1 : Int).toNat (⟨(rd_T107 x0_1 x3_1).f0, (rd_T107 x0_1 x3_1).f1⟩ : S107)) := ⟨_, rfl⟩
        replace H : (proof_reverse.l0 k1 (y176.set (x3_1 : Int).toNat (⟨(rd_T107 x0_1 x2_1).f0, (rd_T107 x0_1 x2_1).f1⟩ : S107)) (wrap64 (x2_1 + 1)) (wrap64 (x3_1 - 1))) = some r := by first | (rw [hy176]; with_reducible exact H) | (have H2_ := (Option.bind_some _ _).symm.trans H; rw [hy176]; with_reducible exact H2_) | (have H2_ := (Option.bind_some _ _).symm.trans H; with_reducible exact H2_) | with_reducible exact H | (rw [hy176]; exact H) | exact H
        have Ny176 := Aside0.mk hy176
        clear hy176
        obtain ⟨y177, hy177⟩ : ∃ y_ : List (S107), y_ = (y176.set (x3_1 : Int).toNat (⟨(rd_T107 x0_1 x2_1).f0, (rd_T107 x0_1 x2_1).f1⟩ : S107)) := ⟨_, rfl⟩
        replace H : (proof_reverse.l0 k1 y177 (wrap64 (x2_1 + 1)) (wrap64 (x3_1 - 1))) = some r := by first | (rw [hy177]; with_reducible exact H) | (have H2_ := (Option.bind_some _ _).symm.trans H; rw [hy177]; with_reducible exact H2_) | (have H2_ := (Option.bind_some _ _).symm.trans H; with_reducible exact H2_) | with_reducible exact H | (rw [hy177]; exact H) | exact H
        have Ny177 := Aside0.mk hy177
        clear hy177
        have H' := Aside0.mk H
        clear H
        try go_wp2
        have n0_ := Aside0.mk (Kd.R_drew HO_0.out)
        have n1_ := Aside0.mk (Kept.drew HK.out)
        have n2_ := Aside0.mk (below_drew1 HB.out)
        clear HO_0
        clear HK
        clear HB
        have HO_0 := n0_
        have HK := n1_
        have HB := n2_
        clear n0_ n1_ n2_
        have p174 : 0 ≤ (x3_1 : Int) := of_decide_eq_true (by first | (with_reducible assumption) | assumption)
        have q174 : x3_1 < (x0_1.length : Int) := of_decide_eq_true (by first | (with_reducible assumption) | assumption)
        have p175 : 0 ≤ (x2_1 : Int) := of_decide_eq_true (by first | (with_reducible assumption) | assumption)
        have q175 : x2_1 < (x0_1.length : Int) := of_decide_eq_true (by first | (with_reducible assumption) | assumption)
        have hlt_ : x2_1 < x3_1 := of_decide_eq_true (by first | (with_reducible assumption) | assumption)
        obtain ⟨go8, co8, eo8, gb8, gl8, cl8, HG8⟩ := Kd.R_form HO_0.out (by simp; omega)
        obtain rfl : A8 = some ⟨go8, pre.length * 2, none⟩ := hA8 go8 _ _ eo8 (fun he => by rw [he] at hl0_1; simp at hl0_1; omega)
        subst eo8
        have GB8 := Aside0.mk gb8
        have GG8 := Aside0.mk HG8
        clear gb8 gl8 HG8
        have HMgo8 := Aside0.mk (show (P0_ go8 ∨ w.heap.size ≤ go8) from (HO_0.out.1 _ rfl))
        obtain ⟨hx174_0, hx174_1, hg9_0, hg9_1⟩ := proof_reverse_cut.cells HO_0.out x3_1 p174 q174
        obtain ⟨hx175_0, hx175_1, _, _⟩ := proof_reverse_cut.cells HO_0.out x2_1 p175 q175
        obtain ⟨hx8_0, hx8_1, hf8_0, hf8_1⟩ := proof_reverse_cut.cells HO_0.out x2_1 p175 q175
        have HQ11 := Aside0.mk (proof_reverse_cut.put HO_0.out x2_1 p175 q175 (⟨(rd_T107 x0_1 x3_1).f0, (rd_T107 x0_1 x3_1).f1⟩ : S107))
        rw [← Ny176.out] at HQ11
        have q9 : x3_1 < (y176.length : Int) := by rw [Ny176.out]; simpa using q174
        obtain ⟨hx9_0, hx9_1, hf9_0, hf9_1⟩ := proof_reverse_cut.cells HQ11.out x3_1 p174 q9
        have HQ12 := Aside0.mk (proof_reverse_cut.put HQ11.out x3_1 p174 q9 (⟨(rd_T107 x0_1 x2_1).f0, (rd_T107 x0_1 x2_1).f1⟩ : S107))
        rw [← Ny177.out] at HQ12
        have hlen177 := Aside0.mk (show x0_1.length = y177.length from by rw [Ny177.out, Ny176.out]; simp)
        have hne1_ : ¬ (x2_1.toNat = x3_1.toNat) := by omega
        have hne2_ : ¬ (x2_1.toNat * 2 = x3_1.toNat * 2) := by omega
        have hne3_ : ¬ (pre.length * 2 + x2_1.toNat * 2 = pre.length * 2 + x3_1.toNat * 2) := by omega
        have hne4_ : ¬ (pre.length * 2 + x2_1.toNat * 2 + 1 = pre.length * 2 + x3_1.toNat * 2) := by omega
        have hne5_ : ¬ (pre.length * 2 + x2_1.toNat * 2 = pre.length * 2 + x3_1.toNat * 2 + 1) := by omega
        replace p174 := eq_true p174
        replace q174 := eq_true q174
        replace p175 := eq_true p175
        replace q175 := eq_true q175
        clear q9 hlt_
        refine start_ (n := 16) (S := fun w' => w'.cell? ⟨go8, pre.length * 2 + ((x3_1).toNat * 2), none⟩ = some (.int .u64 ((rd_T107 x0_1 x3_1).f0)) ∧ w'.cell? ⟨go8, pre.length * 2 + ((x3_1).toNat * 2) + 1, none⟩ = some (.int .u64 ((rd_T107 x0_1 x3_1).f1)) ∧ w'.cell? ⟨go8, pre.length * 2 + ((x2_1).toNat * 2), none⟩ = some (.int .u64 ((rd_T107 x0_1 x2_1).f0)) ∧ w'.cell? ⟨go8, pre.length * 2 + ((x2_1).toNat * 2) + 1, none⟩ = some (.int .u64 ((rd_T107 x0_1 x2_1).f1))) (ds := [13, 15]) #[false, false, false, false, false, false, false, false, false, false, false, false, false, false, false, false] (by kernel_rfl) rfl rfl ⟨hx174_0, hx174_1, hx175_0, hx175_1⟩ (fun hHeld => ?_); refine with_tabW proof_reverse.tab3 proof_reverse.bits3 (fun HT_ HW_ => ?_)
        generalize wr.drew = w10 at hg9_0 hg9_1 HO_0 HK HB GG8 HQ11 HQ12 hf8_0 hf8_1 hf9_0 hf9_1 hx174_0 hx174_1 hx175_0 hx175_1 hx8_0 hx8_1 hx9_0 hx9_1 hHeld ⊢
        refine pure_ (i := 0) (N := some 14) (v := ?_) (a' := ?_) #[true, false, false, false, false, false, false, false, false, false, false, false, false, false, false, false] rfl rfl (any_of HT_.out (by kernel_rfl)) (fun _ _ _ h => h) (Or.inl ⟨by rfl, ?_⟩) ?_ ?_
        rotate_left
        ·intro w'
         go_simp
         with_reducible rfl
        rotate_left
        ·simp only [Act.put, List.setIfInBounds_toArray, List.set_cons_zero, List.set_cons_succ, i64_w, i32_w]
         rfl
        refine pure_ (i := 1) (N := some 15) (v := ?_) (a' := ?_) #[true, true, false, false, false, false, false, false, false, false, false, false, false, false, false, false] rfl rfl (any_of HT_.out (by kernel_rfl)) (fun _ _ _ h => h) (Or.inl ⟨by rfl, ?_⟩) ?_ ?_
        rotate_left
        ·intro w'
         go_simp
         with_reducible rfl
        rotate_left
        ·simp only [Act.put, List.setIfInBounds_toArray, List.set_cons_zero, List.set_cons_succ, i64_w, i32_w]
         rfl
        refine pure_ (i := 2) (N := some 16) (v := ?_) (a' := ?_) #[true, true, true, false, false, false, false, false, false, false, false, false, false, false, false, false] rfl rfl (any_of HT_.out (by kernel_rfl)) (fun _ _ _ h => h) (Or.inl ⟨by rfl, ?_⟩) ?_ ?_
        rotate_left
        ·intro w'
         go_simp
         with_reducible rfl
        rotate_left
        ·simp only [Act.put, List.setIfInBounds_toArray, List.set_cons_zero, List.set_cons_succ, i64_w, i32_w]
         rfl
        refine pure_ (i := 3) (N := some 17) (v := ?_) (a' := ?_) #[true, true, true, true, false, false, false, false, false, false, false, false, false, false, false, false] rfl rfl (any_of HT_.out (by kernel_rfl)) (fun _ _ _ h => h) (Or.inl ⟨by rfl, ?_⟩) ?_ ?_
        rotate_left
        ·intro w'
         go_simp
         with_reducible rfl
        rotate_left
        ·simp only [Act.put, List.setIfInBounds_toArray, List.set_cons_zero, List.set_cons_succ, i64_w, i32_w]
         rfl
        refine pure_ (i := 4) (N := some 18) (v := ?_) (a' := ?_) #[true, true, true, true, true, false, false, false, false, false, false, false, false, false, false, false] rfl rfl (any_of HT_.out (by kernel_rfl)) (fun _ _ _ h => h) (Or.inl ⟨by rfl, ?_⟩) ?_ ?_
        rotate_left
        ·intro w'
         go_simp
         with_reducible rfl
        rotate_left
        ·simp only [Act.put, List.setIfInBounds_toArray, List.set_cons_zero, List.set_cons_succ, i64_w, i32_w]
         rfl
        refine pure_ (i := 5) (N := some 19) (v := ?_) (a' := ?_) #[true, true, true, true, true, true, false, false, false, false, false, false, false, false, false, false] rfl rfl (any_of HT_.out (by kernel_rfl)) (fun _ _ _ h => h) (Or.inl ⟨by rfl, ?_⟩) ?_ ?_
        rotate_left
        ·intro w'
         go_simp
         with_reducible rfl
        rotate_left
        ·simp only [Act.put, List.setIfInBounds_toArray, List.set_cons_zero, List.set_cons_succ, i64_w, i32_w]
         rfl
        refine pure_ (i := 6) (N := some 20) (v := ?_) (a' := ?_) #[true, true, true, true, true, true, true, false, false, false, false, false, false, false, false, false] rfl rfl (any_of HT_.out (by kernel_rfl)) (fun _ _ _ h => h) (Or.inl ⟨by rfl, ?_⟩) ?_ ?_
        rotate_left
        ·intro w'
         go_simp
         with_reducible rfl
        rotate_left
        ·simp only [Act.put, List.setIfInBounds_toArray, List.set_cons_zero, List.set_cons_succ, i64_w, i32_w]
         rfl
        refine pure_ (i := 8) (N := some 22) (v := ?_) (a' := ?_) #[true, true, true, true, true, true, true, false, true, false, false, false, false, false, false, false] rfl rfl (any_of HT_.out (by kernel_rfl)) (fun _ _ _ h => h) (Or.inl ⟨by rfl, ?_⟩) ?_ ?_
        rotate_left
        ·intro w'
         go_simp
         with_reducible rfl
        rotate_left
        ·simp only [Act.put, List.setIfInBounds_toArray, List.set_cons_zero, List.set_cons_succ, i64_w, i32_w]
         rfl
        refine pure_ (i := 9) (N := some 23) (v := ?_) (a' := ?_) #[true, true, true, true, true, true, true, false, true, true, false, false, false, false, false, false] rfl rfl (any_of HT_.out (by kernel_rfl)) (fun _ _ _ h => h) (Or.inl ⟨by rfl, ?_⟩) ?_ ?_
        rotate_left
        ·intro w'
         go_simp
         with_reducible rfl
        rotate_left
        ·simp only [Act.put, List.setIfInBounds_toArray, List.set_cons_zero, List.set_cons_succ, i64_w, i32_w]
         rfl
        refine pure_ (i := 10) (N := some 24) (v := ?_) (a' := ?_) #[true, true, true, true, true, true, true, false, true, true, true, false, false, false, false, false] rfl rfl (any_of HT_.out (by kernel_rfl)) (fun _ _ _ h => h) (Or.inl ⟨by rfl, ?_⟩) ?_ ?_
        rotate_left
        ·intro w'
         go_simp
         with_reducible rfl
        rotate_left
        ·simp only [Act.put, List.setIfInBounds_toArray, List.set_cons_zero, List.set_cons_succ, i64_w, i32_w]
         rfl
        refine take_ (i := 7) (N := some 21) (v := ?_) (a' := ?_) #[true, true, true, true, true, true, true, true, true, true, true, false, false, false, false, false] rfl rfl (take_ofW HT_.out HW_.out (by kernel_rfl)) (fun _ _ _ h => h) (Or.inl ⟨by rfl, ?_⟩) hHeld ?_ ?_
        rotate_left
        ·rintro w' ⟨s0, s1, s2, s3⟩
         go_simp
         with_reducible rfl
        rotate_left
        ·simp only [Act.put, List.setIfInBounds_toArray, List.set_cons_zero, List.set_cons_succ, i64_w, i32_w]
         rfl
        refine take_ (i := 11) (N := some 25) (v := ?_) (a' := ?_) #[true, true, true, true, true, true, true, true, true, true, true, true, false, false, false, false] rfl rfl (take_ofW HT_.out HW_.out (by kernel_rfl)) (fun _ _ _ h => h) (Or.inl ⟨by rfl, ?_⟩) hHeld ?_ ?_
        rotate_left
        ·rintro w' ⟨s0, s1, s2, s3⟩
         go_simp
         with_reducible rfl
        rotate_left
        ·simp only [Act.put, List.setIfInBounds_toArray, List.set_cons_zero, List.set_cons_succ, i64_w, i32_w]
         rfl
        refine pure_ (i := 12) (N := some 26) (v := ?_) (a' := ?_) #[true, true, true, true, true, true, true, true, true, true, true, true, true, false, false, false] rfl rfl (any_of HT_.out (by kernel_rfl)) (fun _ _ _ h => h) (Or.inl ⟨by rfl, ?_⟩) ?_ ?_
        rotate_left
        ·intro w'
         go_simp
         with_reducible rfl
        rotate_left
        ·simp only [Act.put, List.setIfInBounds_toArray, List.set_cons_zero, List.set_cons_succ, i64_w, i32_w]
         rfl
        refine last_ (i := 13) (N := none) #[true, true, true, true, true, true, true, true, true, true, true, true, true, true, false, false] rfl rfl (one_of HT_.out (by kernel_rfl)) (by decide) (fun K hK => ?_)
        refine skip_ (w1 := ?_) (by rfl) rfl ?_ ?_
        rotate_left
        ·go_simp
         rfl
        refine hK.out _ _ ?_
        clear hK K
        refine pure_ (i := 14) (N := some 27) (v := ?_) (a' := ?_) #[true, true, true, true, true, true, true, true, true, true, true, true, true, true, true, false] rfl rfl (any_of HT_.out (by kernel_rfl)) (fun _ _ _ h => h) (Or.inl ⟨by rfl, ?_⟩) ?_ ?_
        rotate_left
        ·intro w'
         go_simp
         with_reducible rfl
        rotate_left
        ·simp only [Act.put, List.setIfInBounds_toArray, List.set_cons_zero, List.set_cons_succ, i64_w, i32_w]
         rfl
        refine last_ (i := 15) (N := none) #[true, true, true, true, true, true, true, true, true, true, true, true, true, true, true, true] rfl rfl (one_of HT_.out (by kernel_rfl)) (by decide) (fun K hK => ?_)
        refine skip_ (w1 := ?_) (by rfl) rfl ?_ ?_
        rotate_left
        ·go_simp
         rfl
        refine hK.out _ _ ?_
        clear hK K
        refine done_ (done_of HT_.out (by kernel_rfl)) ?_
        try go_wp2
        (try simp only [← hl0_1])
        go_roundg k1
        case measure => have := HK1.out; omega
        case rel => exact ⟨(y177), (wrap64 (x2_1 + 1)), (wrap64 (x3_1 - 1)), (by first | rfl | (simp; done) | (simp [*]; done)), (by first | rfl | (simp; done) | (simp [*]; done)), H', ⟨by have := HK1.out; omega⟩, ⟨by (try simp only [hl0_1]); (with_reducible repeat (first | apply Kd.R_alloc | apply Kd.R_drewN | apply Kd.R_drew)); exact HQ12.out⟩, ⟨by rw [hl0_1]; exact hlen177.out⟩, ⟨by repeat (first | (with_reducible first | exact HK.out | apply Kept.alloc | apply Kept.drewN | apply Kept.drew | refine Kept.setCell ?_ HMgo8.out _ | refine Kept.setCell ?_ HMgo8.out _ | refine Kept.setCell ?_ HMgo8.out _ | refine Kept.setCell ?_ HMgo8.out _) | exact HK.out)⟩, ⟨by repeat (first | (with_reducible first | exact HB.out | apply below_alloc | apply pw_below_drewN | apply below_drew1 | refine below_set ?_ GB8.out | refine below_set ?_ GB8.out | refine below_set ?_ GB8.out | refine below_set ?_ GB8.out) | exact HB.out)⟩⟩
       ·rw [if_neg c7] at H
        exact absurd H (by simp)
      ·rw [if_neg c6] at H
       exact absurd H (by simp)
     ·rw [if_neg c5] at H
      exact absurd H (by simp)
    ·rw [if_neg c4] at H
     exact absurd H (by simp)
   ·rw [if_neg c3] at H
    have c3b0 : decide (x2_1 < x3_1) = false := decide_eq_false c3
    clear c3
    obtain rfl := Option.some.inj H
    go_wp2
    first | go_end0 | ((try simp only [Exit.inBlock, Exit.then]); refine bodyPost_ret (results_none rfl _ _ _) rfl ?_)
    exact ⟨by first | rfl | (simp [errW_none, errW_some] <;> rfl) | (simp [*, errW_none, errW_some] <;> rfl), (by first | exact (by (with_reducible repeat (first | apply Kd.R_alloc | apply Kd.R_drewN | apply Kd.R_drew)); exact HO_0.out) | (simp only [hl0_1]; exact (by (with_reducible repeat (first | apply Kd.R_alloc | apply Kd.R_drewN | apply Kd.R_drew)); exact HO_0.out))), by repeat (first | (with_reducible first | exact HB.out | apply below_alloc | apply pw_below_drewN | apply below_drew1) | exact HB.out), by repeat (first | (with_reducible first | exact HK.out | apply Kept.alloc | apply Kept.drewN | apply Kept.drew) | exact HK.out)⟩
def proof_reverse_cut.f (k : Nat) (a0 : List (S107)) (h : Int) : Option (List (S107)) := (proof_reverse.f k (a0.drop h.toNat)).map fun r => a0.take h.toNat ++ r
theorem proof_reverse_cut.mono : ∀ a0 a1 k, LeO (proof_reverse_cut.f k a0 a1) (proof_reverse_cut.f (k + 1) a0 a1) := by
 intro a0 a1 k r h
 unfold proof_reverse_cut.f at h ⊢
 obtain ⟨x, hx, rfl⟩ := Option.map_eq_some_iff.1 h
 rw [proof_reverse.mono _ _ _ hx]
 rfl
set_option maxHeartbeats 8000000 in
theorem proof_reverse_cut.calls (k : Nat) (P0_ : Nat → Prop) (u9000_ : Value) (l0 : List (S107)) (A8 : Option Addr) (n8 co2 : Nat) (h_ : Int) (r : List (S107)) (w0 w : World) (hB : Below w0.heap.size w0 w) (ho0 : Kd.R k107 107 w w0.heap.size P0_ u9000_ l0) (hA : ∃ A0 n0 c0, u9000_ = .slice A0 n0 c0 ∧ A8 = (if c0 = h_.toNat then A0 else A0.map (·.add (h_.toNat * 2)))) (hn : n8 = (l0.drop h_.toNat).length) (hle : h_.toNat ≤ l0.length) (h : proof_reverse_cut.f k l0 h_ = some r) :
  Calls Tryd.prog 135 #[.slice A8 n8 co2] w fun e w' => e = .returned (.tuple #[]) ∧ Kd.R k107 107 w' w0.heap.size (fun k_ => (P0_ k_ ∨ w.heap.size ≤ k_)) u9000_ r ∧ Below w0.heap.size w0 w' ∧ Kept w w' (fun k_ => P0_ k_) := by
 unfold proof_reverse_cut.f at h
 obtain ⟨x, hx, rfl⟩ := Option.map_eq_some_iff.1 h
 subst hn
 refine proof_reverse_cut.core k P0_ u9000_ co2 A8 (l0.take h_.toNat) (l0.drop h_.toNat) x w0 w hB ?_ (by rw [List.take_append_drop]; exact ho0) hx
 intro g n c e hne
 obtain ⟨A0, n0, c0, e0, eA⟩ := hA
 have hr := Kd.R_reads' (e ▸ ho0)
 rw [e] at e0
 injection e0 with e1 e2 e3
 subst e1 e2 e3
 have hl : (l0.drop h_.toNat).length ≠ 0 := fun hz => hne (List.length_eq_zero_iff.1 hz)
 rw [List.length_drop] at hl
 have h1 := hr.1
 have h2 := hr.2.1
 rw [eA, if_neg (by omega), List.length_take, Nat.min_eq_left hle]
 simp [Addr.add]
 all_goals omega
end Go.Proofs.YtijldedhcjkhiaaDoor.I
