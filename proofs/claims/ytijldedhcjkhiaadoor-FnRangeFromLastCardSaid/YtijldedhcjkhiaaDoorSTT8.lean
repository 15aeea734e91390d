import Derived.Test.YtijldedhcjkhiaaDoorSTT0
import Derived.Test.YtijldedhcjkhiaaDoorSTT3
import Derived.Test.YtijldedhcjkhiaaDoorSTT4
import Derived.Test.YtijldedhcjkhiaaDoorSTT5
import Derived.Test.YtijldedhcjkhiaaDoorSTT6
import Derived.Test.YtijldedhcjkhiaaDoorSTT7
namespace Go.Proofs.YtijldedhcjkhiaaDoor.T
open Go.RowKit Go.Proofs.YtijldedhcjkhiaaDoorW.PrintWords Go.Proofs.YtijldedhcjkhiaaDoorW.PrintLast Go.Proofs.YtijldedhcjkhiaaDoorW.PrintMore
attribute [local go_sem] max2_int min2_int max_two min_two max_three min_three max_four min_four   -- for this text's walks alone
set_option linter.unusedVariables false
set_option linter.unusedSimpArgs false
def compact_Range_appendImpl.T1 : Bool × List (List Nat × List Nat) := (true, [([], []), ([0], [0]), ([1], [1]), ([2], [2]), ([], []), ([4], [4]), ([5], [5]), ([6], [6]), ([], []), ([3, 7, 8], [3, 7, 8]), ([9], [9]), ([10], [10]), ([10], [10]), ([11, 9, 0, 1, 2, 3, 4, 5, 6, 7, 8, 9, 10, 11], [11]), ([12, 13, 0, 1, 2, 3, 4, 5, 6, 7, 8, 9, 10, 11, 12, 13], [12])])
def compact_Range_appendImpl.B1 : List Nat := [0, 1, 3, 7, 0, 16, 48, 112, 0, 511, 1023, 2047, 2047, 4095, 16383]
theorem compact_Range_appendImpl.tab1 : rtab .any (opsOf Tryd.f121 1) = compact_Range_appendImpl.T1 := by kernel_rfl
theorem compact_Range_appendImpl.bits1 : waitsOk compact_Range_appendImpl.T1.2 compact_Range_appendImpl.B1 = true := by kernel_rfl
def compact_Range_appendImpl.T17 : Bool × List (List Nat × List Nat) := (true, [([], []), ([0], [0]), ([1], [1]), ([2], [2]), ([3], [3]), ([4], [4]), ([5], [5]), ([], []), ([], []), ([], []), ([8, 9], [8, 9]), ([10], [10]), ([6, 7, 11], [6, 7, 11]), ([12, 12, 0, 1, 2, 3, 4, 5, 6, 7, 8, 9, 10, 11, 12], [7, 12])])
def compact_Range_appendImpl.B17 : List Nat := [0, 1, 3, 7, 15, 31, 63, 0, 0, 0, 768, 1792, 4095, 8191]
theorem compact_Range_appendImpl.tab17 : rtab .any (opsOf Tryd.f121 17) = compact_Range_appendImpl.T17 := by kernel_rfl
theorem compact_Range_appendImpl.bits17 : waitsOk compact_Range_appendImpl.T17.2 compact_Range_appendImpl.B17 = true := by kernel_rfl
def compact_Range_appendImpl.T20 : Bool × List (List Nat × List Nat) := (true, [([], []), ([0], [0]), ([1], [1]), ([2], [2]), ([3], [3]), ([4], [4]), ([5], [5]), ([], []), ([7], [7]), ([8], [8]), ([9], [9]), ([], []), ([10, 11], [10, 11]), ([12], [12]), ([], []), ([6, 13, 14], [6, 13, 14]), ([15, 15, 0, 1, 2, 3, 4, 5, 6, 7, 8, 9, 10, 11, 12, 13, 14, 15], [14, 15])])
def compact_Range_appendImpl.B20 : List Nat := [0, 1, 3, 7, 15, 31, 63, 0, 128, 384, 896, 0, 3968, 8064, 0, 32767, 65535]
theorem compact_Range_appendImpl.tab20 : rtab .any (opsOf Tryd.f121 20) = compact_Range_appendImpl.T20 := by kernel_rfl
theorem compact_Range_appendImpl.bits20 : waitsOk compact_Range_appendImpl.T20.2 compact_Range_appendImpl.B20 = true := by kernel_rfl
def compact_Range_appendImpl.T24 : Bool × List (List Nat × List Nat) := (true, [([], []), ([], []), ([1], [1]), ([2], [2]), ([3], [3]), ([], []), ([4, 5], [4, 5]), ([], []), ([7], [7]), ([6, 8], [6, 8]), ([], []), ([], []), ([10, 11], [10, 11]), ([9, 12, 9], [9, 12]), ([0, 0, 1, 2, 3, 4, 5, 6, 7, 8, 9, 10, 11, 12, 13], [0]), ([14, 0, 1, 2, 3, 4, 5, 6, 7, 8, 9, 10, 11, 12, 13], [14]), ([15, 13, 13, 0, 1, 2, 3, 4, 5, 6, 7, 8, 9, 10, 11, 12, 13], [13, 15])])
def compact_Range_appendImpl.B24 : List Nat := [0, 0, 2, 6, 14, 0, 62, 0, 128, 510, 0, 0, 3072, 8190, 16383, 32767, 65535]
theorem compact_Range_appendImpl.tab24 : rtab .any (opsOf Tryd.f121 24) = compact_Range_appendImpl.T24 := by kernel_rfl
theorem compact_Range_appendImpl.bits24 : waitsOk compact_Range_appendImpl.T24.2 compact_Range_appendImpl.B24 = true := by kernel_rfl
set_option maxHeartbeats 8000000 in
set_option maxRecDepth 100000 in
theorem compact_Range_appendImpl.calls (k : Nat) (h0 h1 h2 h3 h4 h5 : Int) (bf br s lo low hi0 hi x0 ones : Nat) (b : Int) (e : Nat) (e2 : Int) (vis : Nat) (hV : VisOk vis) (A c0 c2 c3 : Nat) (AT A2 A3 : Option Addr) (T H_ : List (List Int)) (seed : List Int) (vs : Value) (L : List S88) (T' : List Int) (i1 i2 : Nat) (L' : List S88) (w : World) (hGT : GlobT w)
    (hmp : compact_getMergePath.f b (e : Int) e2 = some ((low : Int), (hi0 : Int))) (hl : low ≤ 64) (hh : hi0 ≤ 64) (hhi : hi = if hi0 < low then low else hi0) (he : e < 18446744073709551616) (hx : x0 = e / 2 ^ low)
    (hon : bits_OnesCount64.f (Go.bits .and .u64 (x0 : Int) ((2 ^ (hi - low) - 1 : Nat) : Int)) = some (ones : Int)) (ho1 : ones ≤ T.length) (ho2 : (hi - low : Nat) ≤ H_.length + ones) (hT1 : T.length ≤ 1000000) (hH1 : H_.length ≤ 1000000) (hLB : L.length < 900000)
    (hap : apl k h0 h1 h2 h3 h4 h5 T H_ (hi - low) low T.length 0 x0 seed L = some (T', i1, i2, L'))
    (hF : w.heap[bf]? = some (.cells (facCells h0 h1 h2 h3 h4 h5) 117 (0, 0))) (hR : w.heap[br]? = some (.cells (rngCells bf b (e : Int) (.slice AT T.length c0)) 167 (0, 0)))
    (hT : Kd.N (Kd.slice 5 (Kd.int .u8)) 42 w lo (okA br s vs) (.slice AT T.length c0) T) (hc3 : H_.length ≤ c3) (hH : Kd.F (Kd.slice 5 (Kd.int .u8)) w (okB br s vs (.slice AT T.length c0)) A3 H_.length H_) (hc2 : seed.length ≤ c2) (hs : Kd.F (Kd.int .u8) w (okB br s vs (.slice AT T.length c0)) A2 seed.length seed)
    (hS : Seen w s (fun k => some k ≠ (Value.slice AT T.length c0).ownBlock) vs L) (hbs : br < s) (hfs : bf < s) (hlo : lo ≤ w.heap.size) :
    Calls Tryd.prog 121 #[.pointer (some ⟨br, 0, none⟩), .int .u64 e2, .slice A2 seed.length c2, .slice A3 H_.length c3, .func (.func vis) #[] #[.pointer (some ⟨s, 0, none⟩)]] w fun e' w' => ∃ (A' : Option Addr) (c' : Nat) (vs' : Value), e' = .returned .nilIface ∧ w'.heap[bf]? = some (.cells (facCells h0 h1 h2 h3 h4 h5) 117 (0, 0)) ∧ w'.heap[br]? = some (.cells (rngCells bf b e2 (.slice A' (T.take i1 ++ [T'] ++ H_.drop i2).length c')) 167 (0, 0)) ∧ Kd.N (Kd.slice 5 (Kd.int .u8)) 42 w' lo (okA br s vs') (.slice A' (T.take i1 ++ [T'] ++ H_.drop i2).length c') (T.take i1 ++ [T'] ++ H_.drop i2) ∧ Seen w' s (fun k => some k ≠ (Value.slice A' (T.take i1 ++ [T'] ++ H_.drop i2).length c').ownBlock) vs' L' ∧ KeptB w w' (fun k => k = br ∨ k = s ∨ some k = vs.ownBlock ∨ some k = (Value.slice AT T.length c0).ownBlock) ∧ Moved w.heap.size vs vs' ∧ Moved w.heap.size (.slice AT T.length c0) (.slice A' (T.take i1 ++ [T'] ++ H_.drop i2).length c') := by
  have hu38 := Tryd.underlying38
  have hu42 := Tryd.underlying42
  have hu167 := Tryd.underlying167
  have hu117 := Tryd.underlying117
  have hu120 := Tryd.underlying120
  have hnf := func_not_nil vis s
  obtain ⟨vfn, hvf, hvn, hvb⟩ := hV.fn
  have HF := Aside0.mk hF
  have HR := Aside0.mk hR
  have HT := Aside0.mk hT
  have HH := Aside0.mk hH
  have HS := Aside0.mk hS
  have HSD := Aside0.mk hs
  have HMP := Aside0.mk hmp
  have HON := Aside0.mk hon
  have HAP := Aside0.mk hap
  have HX := Aside0.mk hx
  have HLB := Aside0.mk hLB
  have HHI := Aside0.mk hhi
  clear hF hR hT hH hS hs hmp hon hap hx hhi hLB
  go_enter Tryd.func121, Tryd.ntmps121
  go_wp2
  refine start_ (n := 15) (S := fun w' => w'.cell? ⟨br, 1, none⟩ = some (.int .u64 b) ∧ w'.cell? ⟨br, 2, none⟩ = some (.int .u64 (e : Int))) (ds := []) #[false, false, false, false, false, false, false, false, false, false, false, false, false, false, false] (by kernel_rfl) rfl rfl (⟨(blk_cell (blk_drew HR.out) 1).trans rfl, (blk_cell (blk_drew HR.out) 2).trans rfl⟩) (fun hHeld => ?_)
  refine with_tabW compact_Range_appendImpl.tab1 compact_Range_appendImpl.bits1 (fun HT_ HW_ => ?_)
  refine pure_ (i := 0) (N := (some 22)) (v := ?_) (a' := ?_) #[true, false, false, false, false, false, false, false, false, false, false, false, false, false, false] rfl rfl (any_of HT_.out (by kernel_rfl)) (fun _ _ _ h => h) (Or.inl ⟨by rfl, ?_⟩) ?_ ?_
  rotate_left
  · intro w'
    go_simp
    with_reducible rfl
  rotate_left
  · simp only [Act.put, List.setIfInBounds_toArray, List.set_cons_zero, List.set_cons_succ, i64_w, i32_w]
    rfl
  refine pure_ (i := 1) (N := (some 23)) (v := ?_) (a' := ?_) #[true, true, false, false, false, false, false, false, false, false, false, false, false, false, false] rfl rfl (any_of HT_.out (by kernel_rfl)) (fun _ _ _ h => h) (Or.inl ⟨by rfl, ?_⟩) ?_ ?_
  rotate_left
  · intro w'
    go_simp
    with_reducible rfl
  rotate_left
  · simp only [Act.put, List.setIfInBounds_toArray, List.set_cons_zero, List.set_cons_succ, i64_w, i32_w]
    rfl
  refine pure_ (i := 2) (N := (some 24)) (v := ?_) (a' := ?_) #[true, true, true, false, false, false, false, false, false, false, false, false, false, false, false] rfl rfl (any_of HT_.out (by kernel_rfl)) (fun _ _ _ h => h) (Or.inl ⟨by rfl, ?_⟩) ?_ ?_
  rotate_left
  · intro w'
    go_simp
    with_reducible rfl
  rotate_left
  · simp only [Act.put, List.setIfInBounds_toArray, List.set_cons_zero, List.set_cons_succ, i64_w, i32_w]
    rfl
  refine take_ (i := 3) (N := (some 25)) (v := ?_) (a' := ?_) #[true, true, true, true, false, false, false, false, false, false, false, false, false, false, false] rfl rfl (take_ofW HT_.out HW_.out (by kernel_rfl)) (fun _ _ _ h => h) (Or.inl ⟨by rfl, ?_⟩) hHeld ?_ ?_
  rotate_left
  · rintro w' ⟨s0, s1⟩
    go_simp
    with_reducible rfl
  rotate_left
  · simp only [Act.put, List.setIfInBounds_toArray, List.set_cons_zero, List.set_cons_succ, i64_w, i32_w]
    rfl
  refine pure_ (i := 4) (N := (some 26)) (v := ?_) (a' := ?_) #[true, true, true, true, true, false, false, false, false, false, false, false, false, false, false] rfl rfl (any_of HT_.out (by kernel_rfl)) (fun _ _ _ h => h) (Or.inl ⟨by rfl, ?_⟩) ?_ ?_
  rotate_left
  · intro w'
    go_simp
    with_reducible rfl
  rotate_left
  · simp only [Act.put, List.setIfInBounds_toArray, List.set_cons_zero, List.set_cons_succ, i64_w, i32_w]
    rfl
  refine pure_ (i := 5) (N := (some 27)) (v := ?_) (a' := ?_) #[true, true, true, true, true, true, false, false, false, false, false, false, false, false, false] rfl rfl (any_of HT_.out (by kernel_rfl)) (fun _ _ _ h => h) (Or.inl ⟨by rfl, ?_⟩) ?_ ?_
  rotate_left
  · intro w'
    go_simp
    with_reducible rfl
  rotate_left
  · simp only [Act.put, List.setIfInBounds_toArray, List.set_cons_zero, List.set_cons_succ, i64_w, i32_w]
    rfl
  refine pure_ (i := 6) (N := (some 28)) (v := ?_) (a' := ?_) #[true, true, true, true, true, true, true, false, false, false, false, false, false, false, false] rfl rfl (any_of HT_.out (by kernel_rfl)) (fun _ _ _ h => h) (Or.inl ⟨by rfl, ?_⟩) ?_ ?_
  rotate_left
  · intro w'
    go_simp
    with_reducible rfl
  rotate_left
  · simp only [Act.put, List.setIfInBounds_toArray, List.set_cons_zero, List.set_cons_succ, i64_w, i32_w]
    rfl
  refine take_ (i := 7) (N := (some 29)) (v := ?_) (a' := ?_) #[true, true, true, true, true, true, true, true, false, false, false, false, false, false, false] rfl rfl (take_ofW HT_.out HW_.out (by kernel_rfl)) (fun _ _ _ h => h) (Or.inl ⟨by rfl, ?_⟩) hHeld ?_ ?_
  rotate_left
  · rintro w' ⟨s0, s1⟩
    go_simp
    with_reducible rfl
  rotate_left
  · simp only [Act.put, List.setIfInBounds_toArray, List.set_cons_zero, List.set_cons_succ, i64_w, i32_w]
    rfl
  refine pure_ (i := 8) (N := (some 30)) (v := ?_) (a' := ?_) #[true, true, true, true, true, true, true, true, true, false, false, false, false, false, false] rfl rfl (any_of HT_.out (by kernel_rfl)) (fun _ _ _ h => h) (Or.inl ⟨by rfl, ?_⟩) ?_ ?_
  rotate_left
  · intro w'
    go_simp
    with_reducible rfl
  rotate_left
  · simp only [Act.put, List.setIfInBounds_toArray, List.set_cons_zero, List.set_cons_succ, i64_w, i32_w]
    rfl
  refine one_ (i := 9) (N := (some 31)) #[true, true, true, true, true, true, true, true, true, true, false, false, false, false, false] rfl rfl (one_of HT_.out (by kernel_rfl)) (by decide) (fun K hK => ?_)
  refine goes_ Tryd.func106 (by kernel_rfl) rfl #[.int .u64 b, .int .u64 (e : Int), .int .u64 e2] (by rfl) rfl rfl (by (try simp only [List.map_toArray, List.map_cons, List.map_nil]); first | done | rfl) ?_
  with_reducible refine (compact_getMergePath.calls b (e : Int) e2 _ _ _ ?side1 HMP.out).mono ?_
  case side1 => exact hGT.drew
  rintro e6 w6 ⟨rfl, hd⟩
  refine ⟨_, rfl, ?_⟩
  have hb6 : Below w.heap.size w w6 := by obtain ⟨nn, rfl⟩ := hd; exact pw_below_drewN (below_drew1 (Below.refl _ _)) nn
  clear hd
  have KP := Aside0.mk (KeptB.of_below hb6 (fun k => k = br ∨ k = s ∨ some k = vs.ownBlock ∨ some k = (Value.slice AT T.length c0).ownBlock))
  have HF1 := Aside0.mk (blk_below HF.out hb6)
  have HR1 := Aside0.mk (blk_below HR.out hb6)
  have HT1 := Aside0.mk (Kd.N_below HT.out hb6)
  have HH1 := Aside0.mk (F_belowR HH.out hb6)
  have HS1 := Aside0.mk (HS.out.below hb6)
  have HSD1 := Aside0.mk (F_belowR HSD.out hb6)
  clear HF HR HT HH HS HSD
  have HF := HF1
  have HR := HR1
  have HT := HT1
  have HH := HH1
  have HS := HS1
  have HSD := HSD1
  clear HF1 HR1 HT1 HH1 HS1 HSD1
  clear hb6
  refine hK.out _ _ ⟨(blk_cell HR.out 1).trans rfl, (blk_cell HR.out 2).trans rfl⟩ (fun hHeld => ?_)
  clear hK K
  refine norm_ (a' := ?_) ?_ ?_
  rotate_left
  · show Act.put _ (some 31) _ = _
    simp only [Act.put, List.setIfInBounds_toArray, List.set_cons_zero, List.set_cons_succ, i64_w, i32_w]
    rfl
  refine pure_ (i := 10) (N := (some 21)) (v := ?_) (a' := ?_) #[true, true, true, true, true, true, true, true, true, true, true, false, false, false, false] rfl rfl (any_of HT_.out (by kernel_rfl)) (fun _ _ _ h => h) (Or.inl ⟨by rfl, ?_⟩) ?_ ?_
  rotate_left
  · intro w'
    go_simp
    with_reducible rfl
  rotate_left
  · simp only [Act.put, List.setIfInBounds_toArray, List.set_cons_zero, List.set_cons_succ, i64_w, i32_w]
    rfl
  refine pure_ (i := 11) (N := (some 32)) (v := ?_) (a' := ?_) #[true, true, true, true, true, true, true, true, true, true, true, true, false, false, false] rfl rfl (any_of HT_.out (by kernel_rfl)) (fun _ _ _ h => h) (Or.inl ⟨by rfl, ?_⟩) ?_ ?_
  rotate_left
  · intro w'
    go_simp
    with_reducible rfl
  rotate_left
  · simp only [Act.put, List.setIfInBounds_toArray, List.set_cons_zero, List.set_cons_succ, i64_w, i32_w]
    rfl
  refine pure_ (i := 12) (N := (some 33)) (v := ?_) (a' := ?_) #[true, true, true, true, true, true, true, true, true, true, true, true, true, false, false] rfl rfl (any_of HT_.out (by kernel_rfl)) (fun _ _ _ h => h) (Or.inl ⟨by rfl, ?_⟩) ?_ ?_
  rotate_left
  · intro w'
    go_simp
    with_reducible rfl
  rotate_left
  · simp only [Act.put, List.setIfInBounds_toArray, List.set_cons_zero, List.set_cons_succ, i64_w, i32_w]
    rfl
  refine pure_ (i := 13) (N := (some 11)) (v := ?_) (a' := ?_) #[true, true, true, true, true, true, true, true, true, true, true, true, true, true, false] rfl rfl (any_of HT_.out (by kernel_rfl)) (fun _ _ _ h => h) (Or.inl ⟨by rfl, ?_⟩) ?_ ?_
  rotate_left
  · intro w'
    go_simp
    with_reducible rfl
  rotate_left
  · simp only [Act.put, List.setIfInBounds_toArray, List.set_cons_zero, List.set_cons_succ, i64_w, i32_w]
    rfl
  refine pure_ (i := 14) (N := (some 12)) (v := ?_) (a' := ?_) #[true, true, true, true, true, true, true, true, true, true, true, true, true, true, true] rfl rfl (any_of HT_.out (by kernel_rfl)) (fun _ _ _ h => h) (Or.inl ⟨by rfl, ?_⟩) ?_ ?_
  rotate_left
  · intro w'
    go_simp
    with_reducible rfl
  rotate_left
  · simp only [Act.put, List.setIfInBounds_toArray, List.set_cons_zero, List.set_cons_succ, i64_w, i32_w]
    rfl
  refine done_ (done_of HT_.out (by kernel_rfl)) ?_
  go_upto_if 36 with (fail)
  go_cut [12] (fun v12 wc => v12 = .int .u64 (hi : Int) ∧ Aside0 (wc = w6))
  case first =>
    by_cases hlt : hi0 < low
    · have d1 : decide ((hi0 : Int) < (low : Int)) = true := decide_eq_true (by omega)
      have d2 : decide (hi0 < low) = true := decide_eq_true hlt
      have eh : hi = low := by rw [HHI.out, if_pos hlt]
      first | rw [d1] | skip
      go_wp2
      go_meet
      case rel => exact ⟨by rw [eh], ⟨rfl⟩⟩
    · have d1 : decide ((hi0 : Int) < (low : Int)) = false := decide_eq_false (by omega)
      have d2 : decide (hi0 < low) = false := decide_eq_false hlt
      have eh : hi = hi0 := by rw [HHI.out, if_neg hlt]
      first | rw [d1] | skip
      go_wp2
      go_meet
      case rel => exact ⟨by rw [eh], ⟨rfl⟩⟩
  case rest =>
    obtain ⟨rfl, hw⟩ := hcut
    obtain rfl := hw.out
    have hc2_ : wc.cell? ⟨br, 2, none⟩ = some (.int .u64 (e : Int)) := (blk_cell HR.out 2).trans rfl
    have hc3_ : wc.cell? ⟨br, 3, none⟩ = some (.slice AT T.length c0) := (blk_cell HR.out 3).trans rfl
    have hx0 : (e : Int) / 2 ^ low = (x0 : Int) := by rw [HX.out, Int.natCast_ediv, Int.natCast_pow]; rfl
    have hsub : IntKind.u64.wrap ((hi : Int) - (low : Int)) = ((hi - low : Nat) : Int) := by
      have h1 : low ≤ hi := by rw [HHI.out]; split <;> omega
      have h2 : hi ≤ 64 := by rw [HHI.out]; split <;> omega
      rw [show (hi : Int) - (low : Int) = ((hi - low : Nat) : Int) by omega]
      simp only [IntKind.wrap, IntKind.signed, IntKind.bits]
      first | omega | (simp; omega)
    have hmask : IntKind.u64.wrap (IntKind.u64.wrap (2 ^ (hi - low)) - 1) = ((2 ^ (hi - low) - 1 : Nat) : Int) := by
      have h2 : hi ≤ 64 := by rw [HHI.out]; split <;> omega
      have h3 := mask_fin ⟨hi - low, by omega⟩
      rw [show min (hi - low) 64 = hi - low by omega] at h3
      exact h3
    have d3 : decide ((T.length : Int) < (ones : Int)) = false := decide_eq_false (by omega)
    have d3' : decide (T.length < ones) = false := decide_eq_false (by omega)
    have hhl : low ≤ hi ∧ hi ≤ 64 := by constructor <;> (rw [HHI.out]; split <;> omega)
    have d4 : decide ((H_.length : Int) < ((hi - low : Nat) : Int) - (ones : Int)) = false := decide_eq_false (by omega)
    go_upto_region 6 with (first | ((with_reducible refine gate_callee (f := 111) rfl ?_); refine goesL_ (some 51) rfl rfl Tryd.func111 (by kernel_rfl) rfl #[.int .u64 (Go.bits .and .u64 (x0 : Int) ((2 ^ (hi - low) - 1 : Nat) : Int))] rfl (by (try simp only [List.map_toArray, List.map_cons, List.map_nil]); first | done | rfl) ?_; (with_reducible refine (bits_OnesCount64.calls _ _ _ HON.out).mono ?_); rintro e7 w7 ⟨rfl, hd⟩; refine ⟨_, rfl, ?_⟩; (have hb7 : Below wc.heap.size wc w7 := by obtain ⟨nn, rfl⟩ := hd; exact pw_below_drewN (Below.refl _ _) nn); clear hd hc2_ hc3_; (have hc3_ : w7.cell? ⟨br, 3, none⟩ = some (.slice AT T.length c0) := (blk_cell (blk_below HR.out hb7) 3).trans rfl)))
    have KP1 := Aside0.mk (KP.out.below hb7)
    clear KP
    have KP := KP1
    clear KP1
    have HF1 := Aside0.mk (blk_below HF.out hb7)
    have HR1 := Aside0.mk (blk_below HR.out hb7)
    have HT1 := Aside0.mk (Kd.N_below HT.out hb7)
    have HH1 := Aside0.mk (F_belowR HH.out hb7)
    have HS1 := Aside0.mk (HS.out.below hb7)
    have HSD1 := Aside0.mk (F_belowR HSD.out hb7)
    clear HF HR HT HH HS HSD
    have HF := HF1
    have HR := HR1
    have HT := HT1
    have HH := HH1
    have HS := HS1
    have HSD := HSD1
    clear HF1 HR1 HT1 HH1 HS1 HSD1
    clear hb7
    try simp only [Act.put, List.setIfInBounds_toArray, List.set_cons_zero, List.set_cons_succ]
    go_wp2
    go_loopg [2, 13, 18, 19, 20] (hi - low) (fun kq v2 v13 v18 v19 v20 w' => ∃ (hh i1_ i2_ x : Nat) (sd : List Int) (A c : _) (vs1 : Value) (L1 : List S88), v2 = .slice A sd.length c ∧ v13 = .int .u64 (x : Int) ∧ v18 = .int .i64 (i1_ : Int) ∧ v19 = .int .i64 (i2_ : Int) ∧ v20 = .int .u64 (hh : Int) ∧ Aside0 (hh + kq = hi) ∧ Aside0 (x < 18446744073709551616 ∧ i1_ ≤ T.length ∧ i2_ ≤ H_.length) ∧ Aside0 (apl k h0 h1 h2 h3 h4 h5 T H_ kq hh i1_ i2_ x sd L1 = some (T', i1, i2, L')) ∧ Aside0 (sd.length ≤ c) ∧ Aside0 (L1.length + kq ≤ L.length + 64) ∧ Aside0 (w'.heap[bf]? = some (.cells (facCells h0 h1 h2 h3 h4 h5) 117 (0, 0))) ∧ Aside0 (w'.heap[br]? = some (.cells (rngCells bf b (e : Int) (.slice AT T.length c0)) 167 (0, 0))) ∧ Aside0 (Kd.N (Kd.slice 5 (Kd.int .u8)) 42 w' lo (okA br s vs1) (.slice AT T.length c0) T) ∧ Aside0 (Kd.F (Kd.slice 5 (Kd.int .u8)) w' (okB br s vs1 (.slice AT T.length c0)) A3 H_.length H_) ∧ Aside0 (Kd.F (Kd.int .u8) w' (okB br s vs1 (.slice AT T.length c0)) A sd.length sd) ∧ Aside0 (Seen w' s (fun k => some k ≠ (Value.slice AT T.length c0).ownBlock) vs1 L1) ∧ Aside0 (KeptB w w' (fun k => k = br ∨ k = s ∨ some k = vs.ownBlock ∨ some k = (Value.slice AT T.length c0).ownBlock)) ∧ Aside0 (Moved w.heap.size vs vs1))
    case atStart => exact ⟨low, T.length, 0, x0, seed, A2, c2, vs, L, rfl, rfl, rfl, rfl, rfl, ⟨by omega⟩, ⟨by rw [HX.out]; exact Nat.lt_of_le_of_lt (Nat.div_le_self _ _) he, Nat.le_refl _, Nat.zero_le _⟩, HAP, ⟨hc2⟩, ⟨by omega⟩, HF, HR, HT, HH, HSD, HS, KP, ⟨Moved.refl _ _⟩⟩
    case round =>
      clear HF HR HT HH HSD HS KP HAP
      obtain ⟨hh, i1_, i2_, x, sd, A, c, vs1, L1, rfl, rfl, rfl, rfl, rfl, HQ, HXB, HAP, HCL, HLL, HF, HR, HT, HH, HSD, HS, KP, HV⟩ := hrel
      have HLW : Aside0 (L.length < 900000) := HLB
      by_cases ch : hh < hi
      · have cz : decide ((hh : Int) < (hi : Int)) = true := decide_eq_true (by omega)
        have cz' : decide (hh < hi) = true := decide_eq_true ch
        obtain ⟨d, rfl⟩ : ∃ d, gk = d + 1 := ⟨gk - 1, by have := HQ.out; omega⟩
        have H := HAP.out
        simp only [apl] at H
        obtain ⟨y, hy, HY⟩ : ∃ y : Nat, (x : Int) / 2 = (y : Int) ∧ Aside0 (y = x / 2) := ⟨x / 2, by omega, ⟨rfl⟩⟩
        rw [← HY.out] at H
        obtain ⟨hn, ehn, HN⟩ : ∃ hn : Nat, IntKind.u64.wrap ((hh : Int) + 1) = (hn : Int) ∧ Aside0 (hn = hh + 1) := ⟨hh + 1, by simp only [IntKind.wrap, IntKind.signed, IntKind.bits]; first | omega | (simp; omega), ⟨rfl⟩⟩
        rw [← HN.out] at H
        by_cases cx : x % 2 = 0
        · rw [if_pos cx] at H
          by_cases ci : i2_ < H_.length
          · rw [if_pos ci] at H
            obtain ⟨t, hA1, H⟩ := Option.bind_eq_some_iff.mp H
            by_cases htl : t.length < 140737488355328
            case neg => rw [if_neg htl] at H; cases H
            rw [if_pos htl] at H
            have HA1 := Aside0.mk hA1
            have HAP1 := Aside0.mk H
            have HTL := Aside0.mk htl
            clear H hA1 HAP htl
            have hand : Go.bits .and .u64 (x : Int) 1 = 0 := by
              have h1 := u64_and_nat x 1 HXB.out.1 (by decide)
              rw [Nat.and_one_is_mod, cx] at h1
              exact h1
            obtain ⟨ad, A4, c4, eA3, hx4, hl4, hi4⟩ := at_L1 (Kd.F_now HH.out) (i2_ : Int) (by omega) (by omega)
            subst eA3
            rw [rd_L1_nat', Int.toNat_natCast] at hx4
            rw [rd_L1_nat'] at hl4 hi4
            obtain ⟨el, HEL⟩ : ∃ el, Aside0 (H_.getD i2_ [] = el) := ⟨_, ⟨rfl⟩⟩
            rw [HEL.out] at hx4 hl4 hi4
            rw [HEL.out] at HA1
            have HX4 := Aside0.mk hx4
            have HL4 := Aside0.mk hl4
            have HI4 := Aside0.mk hi4
            clear hx4 hl4 hi4
            have li : ((i2_ : Int) < (H_.length : Int)) = True := eq_true (by omega)
            go_wp2
            refine start_ (n := 14) (S := fun w' => w'.cell? ⟨br, 0, none⟩ = some (.pointer (some ⟨bf, 0, none⟩)) ∧ w'.cell? ⟨bf, 0, none⟩ = some (.func (.func 68) #[.agg #[.int .i64 h0, .int .i64 h1, .int .i64 h2, .int .u64 h3, .int .u64 h4, .int .u64 h5]] #[]) ∧ w'.cell? (ad.add i2_) = some (.slice A4 el.length c4)) (ds := []) #[false, false, false, false, false, false, false, false, false, false, false, false, false, false] (by kernel_rfl) rfl rfl (⟨(blk_cell (blk_drew HR.out) 0).trans rfl, (blk_cell (blk_drew HF.out) 0).trans rfl, HX4.out⟩) (fun hHeld => ?_)
            refine with_tabW compact_Range_appendImpl.tab17 compact_Range_appendImpl.bits17 (fun HT_ HW_ => ?_)
            refine pure_ (i := 0) (N := (some 87)) (v := ?_) (a' := ?_) #[true, false, false, false, false, false, false, false, false, false, false, false, false, false] rfl rfl (any_of HT_.out (by kernel_rfl)) (fun _ _ _ h => h) (Or.inl ⟨by rfl, ?_⟩) ?_ ?_
            rotate_left
            · intro w'
              go_simp
              with_reducible rfl
            rotate_left
            · simp only [Act.put, List.setIfInBounds_toArray, List.set_cons_zero, List.set_cons_succ, i64_w, i32_w]
              rfl
            refine pure_ (i := 1) (N := (some 88)) (v := ?_) (a' := ?_) #[true, true, false, false, false, false, false, false, false, false, false, false, false, false] rfl rfl (any_of HT_.out (by kernel_rfl)) (fun _ _ _ h => h) (Or.inl ⟨by rfl, ?_⟩) ?_ ?_
            rotate_left
            · intro w'
              go_simp
              with_reducible rfl
            rotate_left
            · simp only [Act.put, List.setIfInBounds_toArray, List.set_cons_zero, List.set_cons_succ, i64_w, i32_w]
              rfl
            refine pure_ (i := 2) (N := (some 89)) (v := ?_) (a' := ?_) #[true, true, true, false, false, false, false, false, false, false, false, false, false, false] rfl rfl (any_of HT_.out (by kernel_rfl)) (fun _ _ _ h => h) (Or.inl ⟨by rfl, ?_⟩) ?_ ?_
            rotate_left
            · intro w'
              go_simp
              with_reducible rfl
            rotate_left
            · simp only [Act.put, List.setIfInBounds_toArray, List.set_cons_zero, List.set_cons_succ, i64_w, i32_w]
              rfl
            refine take_ (i := 3) (N := (some 90)) (v := ?_) (a' := ?_) #[true, true, true, true, false, false, false, false, false, false, false, false, false, false] rfl rfl (take_ofW HT_.out HW_.out (by kernel_rfl)) (fun _ _ _ h => h) (Or.inl ⟨by rfl, ?_⟩) hHeld ?_ ?_
            rotate_left
            · rintro w' ⟨s0, s1, s2⟩
              go_simp
              with_reducible rfl
            rotate_left
            · simp only [Act.put, List.setIfInBounds_toArray, List.set_cons_zero, List.set_cons_succ, i64_w, i32_w]
              rfl
            refine pure_ (i := 4) (N := (some 91)) (v := ?_) (a' := ?_) #[true, true, true, true, true, false, false, false, false, false, false, false, false, false] rfl rfl (any_of HT_.out (by kernel_rfl)) (fun _ _ _ h => h) (Or.inl ⟨by rfl, ?_⟩) ?_ ?_
            rotate_left
            · intro w'
              go_simp
              with_reducible rfl
            rotate_left
            · simp only [Act.put, List.setIfInBounds_toArray, List.set_cons_zero, List.set_cons_succ, i64_w, i32_w]
              rfl
            refine pure_ (i := 5) (N := (some 92)) (v := ?_) (a' := ?_) #[true, true, true, true, true, true, false, false, false, false, false, false, false, false] rfl rfl (any_of HT_.out (by kernel_rfl)) (fun _ _ _ h => h) (Or.inl ⟨by rfl, ?_⟩) ?_ ?_
            rotate_left
            · intro w'
              go_simp
              with_reducible rfl
            rotate_left
            · simp only [Act.put, List.setIfInBounds_toArray, List.set_cons_zero, List.set_cons_succ, i64_w, i32_w]
              rfl
            refine take_ (i := 6) (N := (some 93)) (v := ?_) (a' := ?_) #[true, true, true, true, true, true, true, false, false, false, false, false, false, false] rfl rfl (take_ofW HT_.out HW_.out (by kernel_rfl)) (fun _ _ _ h => h) (Or.inl ⟨by rfl, ?_⟩) hHeld ?_ ?_
            rotate_left
            · rintro w' ⟨s0, s1, s2⟩
              go_simp
              with_reducible rfl
            rotate_left
            · simp only [Act.put, List.setIfInBounds_toArray, List.set_cons_zero, List.set_cons_succ, i64_w, i32_w]
              rfl
            refine pure_ (i := 7) (N := (some 94)) (v := ?_) (a' := ?_) #[true, true, true, true, true, true, true, true, false, false, false, false, false, false] rfl rfl (any_of HT_.out (by kernel_rfl)) (fun _ _ _ h => h) (Or.inl ⟨by rfl, ?_⟩) ?_ ?_
            rotate_left
            · intro w'
              go_simp
              with_reducible rfl
            rotate_left
            · simp only [Act.put, List.setIfInBounds_toArray, List.set_cons_zero, List.set_cons_succ, i64_w, i32_w]
              rfl
            refine pure_ (i := 8) (N := (some 95)) (v := ?_) (a' := ?_) #[true, true, true, true, true, true, true, true, true, false, false, false, false, false] rfl rfl (any_of HT_.out (by kernel_rfl)) (fun _ _ _ h => h) (Or.inl ⟨by rfl, ?_⟩) ?_ ?_
            rotate_left
            · intro w'
              go_simp
              with_reducible rfl
            rotate_left
            · simp only [Act.put, List.setIfInBounds_toArray, List.set_cons_zero, List.set_cons_succ, i64_w, i32_w]
              rfl
            refine pure_ (i := 9) (N := (some 96)) (v := ?_) (a' := ?_) #[true, true, true, true, true, true, true, true, true, true, false, false, false, false] rfl rfl (any_of HT_.out (by kernel_rfl)) (fun _ _ _ h => h) (Or.inl ⟨by rfl, ?_⟩) ?_ ?_
            rotate_left
            · intro w'
              go_simp
              with_reducible rfl
            rotate_left
            · simp only [Act.put, List.setIfInBounds_toArray, List.set_cons_zero, List.set_cons_succ, i64_w, i32_w]
              rfl
            refine pure_ (i := 10) (N := (some 97)) (v := ?_) (a' := ?_) #[true, true, true, true, true, true, true, true, true, true, true, false, false, false] rfl rfl (any_of HT_.out (by kernel_rfl)) (fun _ _ _ h => h) (Or.inl ⟨by rfl, ?_⟩) ?_ ?_
            rotate_left
            · intro w'
              go_simp
              with_reducible rfl
            rotate_left
            · simp only [Act.put, List.setIfInBounds_toArray, List.set_cons_zero, List.set_cons_succ, i64_w, i32_w]
              rfl
            refine take_ (i := 11) (N := (some 98)) (v := ?_) (a' := ?_) #[true, true, true, true, true, true, true, true, true, true, true, true, false, false] rfl rfl (take_ofW HT_.out HW_.out (by kernel_rfl)) (fun _ _ _ h => h) (Or.inl ⟨by rfl, ?_⟩) hHeld ?_ ?_
            rotate_left
            · rintro w' ⟨s0, s1, s2⟩
              go_simp
              with_reducible rfl
            rotate_left
            · simp only [Act.put, List.setIfInBounds_toArray, List.set_cons_zero, List.set_cons_succ, i64_w, i32_w]
              rfl
            refine one_ (i := 12) (N := (some 99)) #[true, true, true, true, true, true, true, true, true, true, true, true, true, false] rfl rfl (one_of HT_.out (by kernel_rfl)) (by decide) (fun K hK => ?_)
            refine goesF_ Tryd.func68 (by kernel_rfl) rfl (v := .agg #[.int .i64 h0, .int .i64 h1, .int .i64 h2, .int .u64 h3, .int .u64 h4, .int .u64 h5]) #[.slice A sd.length c, .slice A4 el.length c4] #[.agg #[.int .i64 h0, .int .i64 h1, .int .i64 h2, .int .u64 h3, .int .u64 h4, .int .u64 h5], .slice A sd.length c, .slice A4 el.length c4] (by rfl) rfl rfl rfl (by (try simp only [List.map_toArray, List.map_cons, List.map_nil]); first | done | rfl) rfl ?_
            with_reducible refine (impl_toy_HashChildren.calls k h0 h1 h2 h3 h4 h5 _ _ _ _ _ _ _ _ (Kd.C_drew (Kd.F_now HSD.out)) HCL.out (Kd.C_drew HI4.out) HL4.out HA1.out).mono ?_
            rintro e8 w8 ⟨v5, rfl, ho8, hb8⟩
            refine ⟨_, rfl, ?_⟩
            obtain ⟨A5, c5, e5, hc5, hf5⟩ := new_okB (br := br) (v := .slice AT T.length c0) (blk_lt (blk_drew HR.out)) ⟨blk_drew HS.out.cell, Kd.S_drew HS.out.row⟩ (fun k hk => Kd.N_lt (Kd.N_drew HT.out) k hk) ho8
            subst e5
            have HSD1 := Aside0.mk hf5
            have HC5 := Aside0.mk hc5
            have hb9 := below_drew1 (Below.refl wr.heap.size wr)
            have hb10 : Below wr.heap.size wr w8 := below_step hb9 hb8
            have HF1 := Aside0.mk (blk_below HF.out hb10)
            have HR1 := Aside0.mk (blk_below HR.out hb10)
            have HT1 := Aside0.mk (Kd.N_below HT.out hb10)
            have HH1 := Aside0.mk (F_belowR HH.out hb10)
            have HS1 := Aside0.mk (HS.out.below hb10)
            have KP1 := Aside0.mk (KP.out.below hb10)
            clear HF HR HT HH HS KP HSD ho8 hf5 hc5 hb9 hb10 HCL
            have HF := HF1
            have HR := HR1
            have HT := HT1
            have HH := HH1
            have HS := HS1
            have KP := KP1
            have HSD := HSD1
            clear HF1 HR1 HT1 HH1 HS1 KP1 HSD1
            refine hK.out _ _ ⟨(blk_cell HR.out 0).trans rfl, (blk_cell HF.out 0).trans rfl, (hb8.cell (World.block_lt_of_cell? _ _ HX4.out)).trans HX4.out⟩ (fun hHeld => ?_)
            clear hb8
            clear hK K
            refine norm_ (a' := ?_) ?_ ?_
            rotate_left
            · show Act.put _ (some 99) _ = _
              simp only [Act.put, List.setIfInBounds_toArray, List.set_cons_zero, List.set_cons_succ, i64_w, i32_w]
              rfl
            refine pure_ (i := 13) (N := (some 2)) (v := ?_) (a' := ?_) #[true, true, true, true, true, true, true, true, true, true, true, true, true, true] rfl rfl (any_of HT_.out (by kernel_rfl)) (fun _ _ _ h => h) (Or.inl ⟨by rfl, ?_⟩) ?_ ?_
            rotate_left
            · intro w'
              go_simp
              with_reducible rfl
            rotate_left
            · simp only [Act.put, List.setIfInBounds_toArray, List.set_cons_zero, List.set_cons_succ, i64_w, i32_w]
              rfl
            refine done_ (done_of HT_.out (by kernel_rfl)) ?_
            go_wp2_with (first | ((with_reducible refine gate_callee (f := 107) rfl ?_); refine goesL_ (some 128) rfl rfl Tryd.func107 (by kernel_rfl) rfl #[.int .u64 (hn : Int), .int .u64 (y : Int)] rfl (by (try simp only [List.map_toArray, List.map_cons, List.map_nil]); first | done | rfl) ?_; (with_reducible refine (compact_NewNodeID.calls (hn : Int) (y : Int) (hn : Int) (y : Int) _ rfl).mono ?_); rintro e9 w9 ⟨rfl, hb9⟩; refine ⟨_, rfl, ?_⟩; (have KP9 := Aside0.mk (KP.out.below hb9)); (have HF9 := Aside0.mk (blk_below HF.out hb9)); (have HR9 := Aside0.mk (blk_below HR.out hb9)); (have HT9 := Aside0.mk (Kd.N_below HT.out hb9)); (have HH9 := Aside0.mk (F_belowR HH.out hb9)); (have HS9 := Aside0.mk (HS.out.below hb9)); (have HSD9 := Aside0.mk (F_belowR HSD.out hb9)); clear hb9) | ((with_reducible refine gate_funcval (t := 124) rfl ?_); refine closL_ (some 130) rfl rfl hvf hvn hvb #[.agg #[.int .u64 (hn : Int), .int .u64 (y : Int)], .slice A5 t.length c5] #[.agg #[.int .u64 (hn : Int), .int .u64 (y : Int)], .slice A5 t.length c5, .pointer (some ⟨s, 0, none⟩)] rfl rfl (by (try simp only [List.map_toArray, List.map_cons, List.map_nil]); first | done | rfl) rfl ?_; (refine (hV.run (hn : Int) (y : Int) A5 c5 t s (fun k => some k ≠ (Value.slice AT T.length c0).ownBlock) vs1 L1 _ ?sp HS9.out (Kd.F_now HSD9.out) HC5.out ?sl ?sm).mono ?_); (case sp => exact fun k hk he => by have := Kd.N_lt HT9.out k he.symm; omega); (case sl => have := HLL.out; have := HLW.out; omega); (case sm => exact HTL.out); rintro e10 w10 ⟨v0_, vs2, rfl, hS2, hK2, hM2⟩; refine ⟨_, rfl, ?_⟩; (have HS10 := Aside0.mk hS2); (have HK10 := Aside0.mk hK2); (have HM10 := Aside0.mk hM2); clear hS2 hK2 hM2))
            have hvb : ∀ k, vs1.ownBlock = some k → s + 1 ≤ k := Kd.S_base HS9.out.row
            have hnsF : ¬ shows s vs1 bf := by
              rintro (h | h)
              · omega
              · have := hvb bf h.symm; omega
            have hnsR : ¬ shows s vs1 br := by
              rintro (h | h)
              · omega
              · have := hvb br h.symm; omega
            have hnsA : ∀ k, okA br s vs1 k → ¬ shows s vs1 k := fun k hk h => h.elim hk.2.1 hk.2.2
            have HF10 := Aside0.mk (blk_kept HF9.out HK10.out.1 hnsF)
            have HR10 := Aside0.mk (blk_kept HR9.out HK10.out.1 hnsR)
            have HT10 := Aside0.mk (Kd.N_mono (Kd.N_kept (Kd.N_bound HT9.out) HK10.out.1 (fun k hk => hnsA k hk.1)) (fun k hk => okA.after HM10.out hk))
            have HH10 := Aside0.mk (Kd.F_mono (F_keptR (Kd.F_bound HH9.out) HK10.out.1 (fun k hk => hnsA k hk.1.1)) (fun k hk => okB.after HM10.out (Moved.refl _ _) hk))
            have HSD10 := Aside0.mk (Kd.F_mono (F_keptR (Kd.F_bound HSD9.out) HK10.out.1 (fun k hk => hnsA k hk.1.1)) (fun k hk => okB.after HM10.out (Moved.refl _ _) hk))
            have KP10 := Aside0.mk (KP9.out.then_ HK10.out (S2 := shows s vs1) (fun k hk => by
              rcases hk with h | h
              · exact Or.inl (Or.inr (Or.inl h))
              · rcases HV.out with e | ⟨b_, e, hb_⟩
                · exact Or.inl (Or.inr (Or.inr (Or.inl (h.trans e))))
                · rw [e] at h; injection h with h; exact Or.inr (by omega)))
            have HV10 := Aside0.mk (HV.out.trans HM10.out KP9.out.1.1)
            go_roundg d
            case measure => omega
            case rel => exact ⟨hn, i1_, (i2_ + 1), y, t, A5, c5, vs2, L1 ++ [⟨⟨(hn : Int), (y : Int)⟩, t⟩], rfl, rfl, rfl, rfl, rfl, ⟨by have := HQ.out; have := HN.out; omega⟩, ⟨by have := HXB.out.1; have := HY.out; omega, by have := HXB.out; (try have := HJ1.out); omega, by have := HXB.out; omega⟩, HAP1, HC5, ⟨by have := HLL.out; simp; omega⟩, HF10, HR10, HT10, HH10, HSD10, HS10, KP10, HV10⟩
          · rw [if_neg ci] at H
            cases H
        · rw [if_neg cx] at H
          by_cases ci : 0 < i1_ ∧ i1_ ≤ T.length
          · rw [if_pos ci] at H
            obtain ⟨t, hA1, H⟩ := Option.bind_eq_some_iff.mp H
            by_cases htl : t.length < 140737488355328
            case neg => rw [if_neg htl] at H; cases H
            rw [if_pos htl] at H
            have HA1 := Aside0.mk hA1
            have HAP1 := Aside0.mk H
            have HTL := Aside0.mk htl
            clear H hA1 HAP htl
            have hand : Go.bits .and .u64 (x : Int) 1 = 1 := by
              have h1 := u64_and_nat x 1 HXB.out.1 (by decide)
              rw [Nat.and_one_is_mod, show x % 2 = 1 by omega] at h1
              exact h1
            obtain ⟨g, cap_, eA, hgb, hgl, _⟩ := Kd.N_form HT.out (by omega)
            injection eA with eA1 eA2 eA3
            have eAT := eA1
            obtain ⟨j1, hj1, HJ1⟩ : ∃ j1 : Nat, (i1_ : Int) - 1 = (j1 : Int) ∧ Aside0 (j1 = i1_ - 1) := ⟨i1_ - 1, by omega, ⟨rfl⟩⟩
            rw [← HJ1.out] at HA1 HAP1
            have HT' := HT.out
            rw [eAT] at HT'
            obtain ⟨A4, c4, hx4, hl4, hF4⟩ := n_row_at HT' j1 (by have := HJ1.out; omega)
            have hi4 := Kd.F_now hF4
            obtain ⟨el, HEL⟩ : ∃ el, Aside0 (T.getD j1 [] = el) := ⟨_, ⟨rfl⟩⟩
            rw [HEL.out] at hx4 hl4 hi4
            rw [HEL.out] at HA1
            have HX4 := Aside0.mk hx4
            have HL4 := Aside0.mk hl4
            have HI4 := Aside0.mk hi4
            have EAT := Aside0.mk eAT
            have HG4 := Aside0.mk (show some g = (Value.slice AT T.length c0).ownBlock by rw [eAT]; rfl)
            clear hx4 hl4 hi4 hF4 HT' eA1 eA2 eA3 hgb hgl eAT
            have hw1 : wrap64 ((i1_ : Int) - 1) = (j1 : Int) := by have := HJ1.out; unfold wrap64; omega
            have li : ((j1 : Int) < (T.length : Int)) = True := eq_true (by have := HJ1.out; omega)
            have li0 : ((0 : Int) ≤ (j1 : Int)) = True := eq_true (by omega)
            go_wp2
            refine start_ (n := 17) (S := fun w' => w'.cell? ⟨br, 0, none⟩ = some (.pointer (some ⟨bf, 0, none⟩)) ∧ w'.cell? ⟨bf, 0, none⟩ = some (.func (.func 68) #[.agg #[.int .i64 h0, .int .i64 h1, .int .i64 h2, .int .u64 h3, .int .u64 h4, .int .u64 h5]] #[]) ∧ w'.cell? ⟨br, 3, none⟩ = some (.slice (some ⟨g, 0, none⟩) T.length c0) ∧ w'.cell? ⟨g, j1, none⟩ = some (.slice A4 el.length c4)) (ds := []) #[false, false, false, false, false, false, false, false, false, false, false, false, false, false, false, false, false] (by kernel_rfl) rfl rfl (⟨(blk_cell (blk_drew HR.out) 0).trans rfl, (blk_cell (blk_drew HF.out) 0).trans rfl, (blk_cell (blk_drew HR.out) 3).trans (by rw [EAT.out]; rfl), HX4.out⟩) (fun hHeld => ?_)
            refine with_tabW compact_Range_appendImpl.tab20 compact_Range_appendImpl.bits20 (fun HT_ HW_ => ?_)
            refine pure_ (i := 0) (N := (some 104)) (v := ?_) (a' := ?_) #[true, false, false, false, false, false, false, false, false, false, false, false, false, false, false, false, false] rfl rfl (any_of HT_.out (by kernel_rfl)) (fun _ _ _ h => h) (Or.inl ⟨by rfl, ?_⟩) ?_ ?_
            rotate_left
            · intro w'
              go_simp
              with_reducible rfl
            rotate_left
            · simp only [Act.put, List.setIfInBounds_toArray, List.set_cons_zero, List.set_cons_succ, i64_w, i32_w]
              rfl
            refine pure_ (i := 1) (N := (some 105)) (v := ?_) (a' := ?_) #[true, true, false, false, false, false, false, false, false, false, false, false, false, false, false, false, false] rfl rfl (any_of HT_.out (by kernel_rfl)) (fun _ _ _ h => h) (Or.inl ⟨by rfl, ?_⟩) ?_ ?_
            rotate_left
            · intro w'
              go_simp
              with_reducible rfl
            rotate_left
            · simp only [Act.put, List.setIfInBounds_toArray, List.set_cons_zero, List.set_cons_succ, i64_w, i32_w]
              rfl
            refine pure_ (i := 2) (N := (some 106)) (v := ?_) (a' := ?_) #[true, true, true, false, false, false, false, false, false, false, false, false, false, false, false, false, false] rfl rfl (any_of HT_.out (by kernel_rfl)) (fun _ _ _ h => h) (Or.inl ⟨by rfl, ?_⟩) ?_ ?_
            rotate_left
            · intro w'
              go_simp
              with_reducible rfl
            rotate_left
            · simp only [Act.put, List.setIfInBounds_toArray, List.set_cons_zero, List.set_cons_succ, i64_w, i32_w]
              rfl
            refine take_ (i := 3) (N := (some 107)) (v := ?_) (a' := ?_) #[true, true, true, true, false, false, false, false, false, false, false, false, false, false, false, false, false] rfl rfl (take_ofW HT_.out HW_.out (by kernel_rfl)) (fun _ _ _ h => h) (Or.inl ⟨by rfl, ?_⟩) hHeld ?_ ?_
            rotate_left
            · rintro w' ⟨s0, s1, s2, s3⟩
              go_simp
              with_reducible rfl
            rotate_left
            · simp only [Act.put, List.setIfInBounds_toArray, List.set_cons_zero, List.set_cons_succ, i64_w, i32_w]
              rfl
            refine pure_ (i := 4) (N := (some 108)) (v := ?_) (a' := ?_) #[true, true, true, true, true, false, false, false, false, false, false, false, false, false, false, false, false] rfl rfl (any_of HT_.out (by kernel_rfl)) (fun _ _ _ h => h) (Or.inl ⟨by rfl, ?_⟩) ?_ ?_
            rotate_left
            · intro w'
              go_simp
              with_reducible rfl
            rotate_left
            · simp only [Act.put, List.setIfInBounds_toArray, List.set_cons_zero, List.set_cons_succ, i64_w, i32_w]
              rfl
            refine pure_ (i := 5) (N := (some 109)) (v := ?_) (a' := ?_) #[true, true, true, true, true, true, false, false, false, false, false, false, false, false, false, false, false] rfl rfl (any_of HT_.out (by kernel_rfl)) (fun _ _ _ h => h) (Or.inl ⟨by rfl, ?_⟩) ?_ ?_
            rotate_left
            · intro w'
              go_simp
              with_reducible rfl
            rotate_left
            · simp only [Act.put, List.setIfInBounds_toArray, List.set_cons_zero, List.set_cons_succ, i64_w, i32_w]
              rfl
            refine take_ (i := 6) (N := (some 110)) (v := ?_) (a' := ?_) #[true, true, true, true, true, true, true, false, false, false, false, false, false, false, false, false, false] rfl rfl (take_ofW HT_.out HW_.out (by kernel_rfl)) (fun _ _ _ h => h) (Or.inl ⟨by rfl, ?_⟩) hHeld ?_ ?_
            rotate_left
            · rintro w' ⟨s0, s1, s2, s3⟩
              go_simp
              with_reducible rfl
            rotate_left
            · simp only [Act.put, List.setIfInBounds_toArray, List.set_cons_zero, List.set_cons_succ, i64_w, i32_w]
              rfl
            refine pure_ (i := 7) (N := (some 111)) (v := ?_) (a' := ?_) #[true, true, true, true, true, true, true, true, false, false, false, false, false, false, false, false, false] rfl rfl (any_of HT_.out (by kernel_rfl)) (fun _ _ _ h => h) (Or.inl ⟨by rfl, ?_⟩) ?_ ?_
            rotate_left
            · intro w'
              go_simp
              with_reducible rfl
            rotate_left
            · simp only [Act.put, List.setIfInBounds_toArray, List.set_cons_zero, List.set_cons_succ, i64_w, i32_w]
              rfl
            refine pure_ (i := 8) (N := (some 112)) (v := ?_) (a' := ?_) #[true, true, true, true, true, true, true, true, true, false, false, false, false, false, false, false, false] rfl rfl (any_of HT_.out (by kernel_rfl)) (fun _ _ _ h => h) (Or.inl ⟨by rfl, ?_⟩) ?_ ?_
            rotate_left
            · intro w'
              go_simp
              with_reducible rfl
            rotate_left
            · simp only [Act.put, List.setIfInBounds_toArray, List.set_cons_zero, List.set_cons_succ, i64_w, i32_w]
              rfl
            refine pure_ (i := 9) (N := (some 113)) (v := ?_) (a' := ?_) #[true, true, true, true, true, true, true, true, true, true, false, false, false, false, false, false, false] rfl rfl (any_of HT_.out (by kernel_rfl)) (fun _ _ _ h => h) (Or.inl ⟨by rfl, ?_⟩) ?_ ?_
            rotate_left
            · intro w'
              go_simp
              with_reducible rfl
            rotate_left
            · simp only [Act.put, List.setIfInBounds_toArray, List.set_cons_zero, List.set_cons_succ, i64_w, i32_w]
              rfl
            refine take_ (i := 10) (N := (some 114)) (v := ?_) (a' := ?_) #[true, true, true, true, true, true, true, true, true, true, true, false, false, false, false, false, false] rfl rfl (take_ofW HT_.out HW_.out (by kernel_rfl)) (fun _ _ _ h => h) (Or.inl ⟨by rfl, ?_⟩) hHeld ?_ ?_
            rotate_left
            · rintro w' ⟨s0, s1, s2, s3⟩
              go_simp
              with_reducible rfl
            rotate_left
            · simp only [Act.put, List.setIfInBounds_toArray, List.set_cons_zero, List.set_cons_succ, i64_w, i32_w]
              rfl
            refine pure_ (i := 11) (N := (some 115)) (v := ?_) (a' := ?_) #[true, true, true, true, true, true, true, true, true, true, true, true, false, false, false, false, false] rfl rfl (any_of HT_.out (by kernel_rfl)) (fun _ _ _ h => h) (Or.inl ⟨by rfl, ?_⟩) ?_ ?_
            rotate_left
            · intro w'
              go_simp
              with_reducible rfl
            rotate_left
            · simp only [Act.put, List.setIfInBounds_toArray, List.set_cons_zero, List.set_cons_succ, i64_w, i32_w]
              rfl
            refine pure_ (i := 12) (N := (some 116)) (v := ?_) (a' := ?_) #[true, true, true, true, true, true, true, true, true, true, true, true, true, false, false, false, false] rfl rfl (any_of HT_.out (by kernel_rfl)) (fun _ _ _ h => h) (Or.inl ⟨by rfl, ?_⟩) ?_ ?_
            rotate_left
            · intro w'
              go_simp
              with_reducible rfl
            rotate_left
            · simp only [Act.put, List.setIfInBounds_toArray, List.set_cons_zero, List.set_cons_succ, i64_w, i32_w]
              rfl
            refine take_ (i := 13) (N := (some 117)) (v := ?_) (a' := ?_) #[true, true, true, true, true, true, true, true, true, true, true, true, true, true, false, false, false] rfl rfl (take_ofW HT_.out HW_.out (by kernel_rfl)) (fun _ _ _ h => h) (Or.inl ⟨by rfl, ?_⟩) hHeld ?_ ?_
            rotate_left
            · rintro w' ⟨s0, s1, s2, s3⟩
              go_simp
              with_reducible rfl
            rotate_left
            · simp only [Act.put, List.setIfInBounds_toArray, List.set_cons_zero, List.set_cons_succ, i64_w, i32_w]
              rfl
            refine pure_ (i := 14) (N := (some 118)) (v := ?_) (a' := ?_) #[true, true, true, true, true, true, true, true, true, true, true, true, true, true, true, false, false] rfl rfl (any_of HT_.out (by kernel_rfl)) (fun _ _ _ h => h) (Or.inl ⟨by rfl, ?_⟩) ?_ ?_
            rotate_left
            · intro w'
              go_simp
              with_reducible rfl
            rotate_left
            · simp only [Act.put, List.setIfInBounds_toArray, List.set_cons_zero, List.set_cons_succ, i64_w, i32_w]
              rfl
            refine one_ (i := 15) (N := (some 119)) #[true, true, true, true, true, true, true, true, true, true, true, true, true, true, true, true, false] rfl rfl (one_of HT_.out (by kernel_rfl)) (by decide) (fun K hK => ?_)
            refine goesF_ Tryd.func68 (by kernel_rfl) rfl (v := .agg #[.int .i64 h0, .int .i64 h1, .int .i64 h2, .int .u64 h3, .int .u64 h4, .int .u64 h5]) #[.slice A4 el.length c4, .slice A sd.length c] #[.agg #[.int .i64 h0, .int .i64 h1, .int .i64 h2, .int .u64 h3, .int .u64 h4, .int .u64 h5], .slice A4 el.length c4, .slice A sd.length c] (by rfl) rfl rfl rfl (by (try simp only [List.map_toArray, List.map_cons, List.map_nil]); first | done | rfl) rfl ?_
            with_reducible refine (impl_toy_HashChildren.calls k h0 h1 h2 h3 h4 h5 _ _ _ _ _ _ _ _ (Kd.C_drew HI4.out) HL4.out (Kd.C_drew (Kd.F_now HSD.out)) HCL.out HA1.out).mono ?_
            rintro e8 w8 ⟨v5, rfl, ho8, hb8⟩
            refine ⟨_, rfl, ?_⟩
            obtain ⟨A5, c5, e5, hc5, hf5⟩ := new_okB (br := br) (v := .slice AT T.length c0) (blk_lt (blk_drew HR.out)) ⟨blk_drew HS.out.cell, Kd.S_drew HS.out.row⟩ (fun k hk => Kd.N_lt (Kd.N_drew HT.out) k hk) ho8
            subst e5
            have HSD1 := Aside0.mk hf5
            have HC5 := Aside0.mk hc5
            have hb9 := below_drew1 (Below.refl wr.heap.size wr)
            have hb10 : Below wr.heap.size wr w8 := below_step hb9 hb8
            have HF1 := Aside0.mk (blk_below HF.out hb10)
            have HR1 := Aside0.mk (blk_below HR.out hb10)
            have HT1 := Aside0.mk (Kd.N_below HT.out hb10)
            have HH1 := Aside0.mk (F_belowR HH.out hb10)
            have HS1 := Aside0.mk (HS.out.below hb10)
            have KP1 := Aside0.mk (KP.out.below hb10)
            clear HF HR HT HH HS KP HSD ho8 hf5 hc5 hb9 hb10 HCL
            have HF := HF1
            have HR := HR1
            have HT := HT1
            have HH := HH1
            have HS := HS1
            have KP := KP1
            have HSD := HSD1
            clear HF1 HR1 HT1 HH1 HS1 KP1 HSD1
            refine hK.out _ _ ⟨(blk_cell HR.out 0).trans rfl, (blk_cell HF.out 0).trans rfl, (blk_cell HR.out 3).trans (by rw [EAT.out]; rfl), (hb8.cell (World.block_lt_of_cell? _ _ HX4.out)).trans HX4.out⟩ (fun hHeld => ?_)
            clear hb8
            clear hK K
            refine norm_ (a' := ?_) ?_ ?_
            rotate_left
            · show Act.put _ (some 119) _ = _
              simp only [Act.put, List.setIfInBounds_toArray, List.set_cons_zero, List.set_cons_succ, i64_w, i32_w]
              rfl
            refine pure_ (i := 16) (N := (some 2)) (v := ?_) (a' := ?_) #[true, true, true, true, true, true, true, true, true, true, true, true, true, true, true, true, true] rfl rfl (any_of HT_.out (by kernel_rfl)) (fun _ _ _ h => h) (Or.inl ⟨by rfl, ?_⟩) ?_ ?_
            rotate_left
            · intro w'
              go_simp
              with_reducible rfl
            rotate_left
            · simp only [Act.put, List.setIfInBounds_toArray, List.set_cons_zero, List.set_cons_succ, i64_w, i32_w]
              rfl
            refine done_ (done_of HT_.out (by kernel_rfl)) ?_
            go_wp2_with (first | ((with_reducible refine gate_callee (f := 107) rfl ?_); refine goesL_ (some 128) rfl rfl Tryd.func107 (by kernel_rfl) rfl #[.int .u64 (hn : Int), .int .u64 (y : Int)] rfl (by (try simp only [List.map_toArray, List.map_cons, List.map_nil]); first | done | rfl) ?_; (with_reducible refine (compact_NewNodeID.calls (hn : Int) (y : Int) (hn : Int) (y : Int) _ rfl).mono ?_); rintro e9 w9 ⟨rfl, hb9⟩; refine ⟨_, rfl, ?_⟩; (have KP9 := Aside0.mk (KP.out.below hb9)); (have HF9 := Aside0.mk (blk_below HF.out hb9)); (have HR9 := Aside0.mk (blk_below HR.out hb9)); (have HT9 := Aside0.mk (Kd.N_below HT.out hb9)); (have HH9 := Aside0.mk (F_belowR HH.out hb9)); (have HS9 := Aside0.mk (HS.out.below hb9)); (have HSD9 := Aside0.mk (F_belowR HSD.out hb9)); clear hb9) | ((with_reducible refine gate_funcval (t := 124) rfl ?_); refine closL_ (some 130) rfl rfl hvf hvn hvb #[.agg #[.int .u64 (hn : Int), .int .u64 (y : Int)], .slice A5 t.length c5] #[.agg #[.int .u64 (hn : Int), .int .u64 (y : Int)], .slice A5 t.length c5, .pointer (some ⟨s, 0, none⟩)] rfl rfl (by (try simp only [List.map_toArray, List.map_cons, List.map_nil]); first | done | rfl) rfl ?_; (refine (hV.run (hn : Int) (y : Int) A5 c5 t s (fun k => some k ≠ (Value.slice AT T.length c0).ownBlock) vs1 L1 _ ?sp HS9.out (Kd.F_now HSD9.out) HC5.out ?sl ?sm).mono ?_); (case sp => exact fun k hk he => by have := Kd.N_lt HT9.out k he.symm; omega); (case sl => have := HLL.out; have := HLW.out; omega); (case sm => exact HTL.out); rintro e10 w10 ⟨v0_, vs2, rfl, hS2, hK2, hM2⟩; refine ⟨_, rfl, ?_⟩; (have HS10 := Aside0.mk hS2); (have HK10 := Aside0.mk hK2); (have HM10 := Aside0.mk hM2); clear hS2 hK2 hM2))
            have hvb : ∀ k, vs1.ownBlock = some k → s + 1 ≤ k := Kd.S_base HS9.out.row
            have hnsF : ¬ shows s vs1 bf := by
              rintro (h | h)
              · omega
              · have := hvb bf h.symm; omega
            have hnsR : ¬ shows s vs1 br := by
              rintro (h | h)
              · omega
              · have := hvb br h.symm; omega
            have hnsA : ∀ k, okA br s vs1 k → ¬ shows s vs1 k := fun k hk h => h.elim hk.2.1 hk.2.2
            have HF10 := Aside0.mk (blk_kept HF9.out HK10.out.1 hnsF)
            have HR10 := Aside0.mk (blk_kept HR9.out HK10.out.1 hnsR)
            have HT10 := Aside0.mk (Kd.N_mono (Kd.N_kept (Kd.N_bound HT9.out) HK10.out.1 (fun k hk => hnsA k hk.1)) (fun k hk => okA.after HM10.out hk))
            have HH10 := Aside0.mk (Kd.F_mono (F_keptR (Kd.F_bound HH9.out) HK10.out.1 (fun k hk => hnsA k hk.1.1)) (fun k hk => okB.after HM10.out (Moved.refl _ _) hk))
            have HSD10 := Aside0.mk (Kd.F_mono (F_keptR (Kd.F_bound HSD9.out) HK10.out.1 (fun k hk => hnsA k hk.1.1)) (fun k hk => okB.after HM10.out (Moved.refl _ _) hk))
            have KP10 := Aside0.mk (KP9.out.then_ HK10.out (S2 := shows s vs1) (fun k hk => by
              rcases hk with h | h
              · exact Or.inl (Or.inr (Or.inl h))
              · rcases HV.out with e | ⟨b_, e, hb_⟩
                · exact Or.inl (Or.inr (Or.inr (Or.inl (h.trans e))))
                · rw [e] at h; injection h with h; exact Or.inr (by omega)))
            have HV10 := Aside0.mk (HV.out.trans HM10.out KP9.out.1.1)
            go_roundg d
            case measure => omega
            case rel => exact ⟨hn, j1, i2_, y, t, A5, c5, vs2, L1 ++ [⟨⟨(hn : Int), (y : Int)⟩, t⟩], rfl, rfl, rfl, rfl, rfl, ⟨by have := HQ.out; have := HN.out; omega⟩, ⟨by have := HXB.out.1; have := HY.out; omega, by have := HXB.out; (try have := HJ1.out); omega, by have := HXB.out; omega⟩, HAP1, HC5, ⟨by have := HLL.out; simp; omega⟩, HF10, HR10, HT10, HH10, HSD10, HS10, KP10, HV10⟩
          · rw [if_neg ci] at H
            cases H
      · have hhe : hh = hi := by have := HQ.out; omega
        have hgk : gk = 0 := by have := HQ.out; omega
        have H := HAP.out
        rw [hgk] at H
        simp only [apl, Option.some.injEq, Prod.mk.injEq] at H
        obtain ⟨e1, e2_, e3, e4⟩ := H
        have EQ := Aside0.mk (And.intro e1 (And.intro e2_ (And.intro e3 e4)))
        clear e1 e2_ e3 e4 HAP
        have cz : decide ((hh : Int) < (hi : Int)) = false := decide_eq_false (by omega)
        have cz' : decide (hh < hi) = false := decide_eq_false ch
        obtain ⟨i0_, hi0_, _, hsz_, _⟩ := info_parts info42
        have hi1 : i1_ ≤ T.length := HXB.out.2.1
        have hi2 : i2_ ≤ H_.length := HXB.out.2.2
        have hTc : T.length ≤ c0 := (Kd.N_reads' HT.out).2.1
        have hcut1 := cut_to (P := Tryd.prog) 38 42 .i64 Tryd.underlying38 hi0_ AT T.length c0 (i1_ : Int) (by omega) (by omega) hTc
        have hcut2 := cut_from (P := Tryd.prog) 38 42 .i64 Tryd.underlying38 hi0_ 1 hsz_ A3 H_.length c3 (i2_ : Int) (by omega) (by omega)
        rw [Int.toNat_natCast] at hcut1 hcut2
        have hcF := F_cutR HH.out hi2 hc3
        obtain ⟨A6, hA6⟩ : ∃ A6, A6 = (if c3 = i2_ then A3 else A3.map (·.add (i2_ * 1))) := ⟨_, rfl⟩
        rw [← hA6] at hcut2 hcF
        have HCF := Aside0.mk hcF
        obtain ⟨m6, hm6, HM6⟩ : ∃ m6, H_.length - i2_ = m6 ∧ Aside0 ((H_.drop i2_).length = m6) := ⟨_, rfl, ⟨List.length_drop⟩⟩
        obtain ⟨c6, hc6⟩ : ∃ c6, c3 - i2_ = c6 := ⟨_, rfl⟩
        rw [hm6, hc6] at hcut2
        clear hA6 hcF hc6 hm6
        have HI := Aside0.mk (And.intro hi1 hi2)
        have KP0 := Aside0.mk KP.out.1.1
        clear hi1 hi2 hi0_ hsz_
        go_wp2
        refine start_ (n := 17) (S := fun w' => w'.cell? ⟨br, 3, none⟩ = some (.slice AT T.length c0)) (ds := [16]) #[false, false, false, false, false, false, false, false, false, false, false, false, false, false, false, false, false] (by kernel_rfl) rfl rfl ((blk_cell (blk_drew HR.out) 3).trans rfl) (fun hHeld => ?_)
        refine with_tabW compact_Range_appendImpl.tab24 compact_Range_appendImpl.bits24 (fun HT_ HW_ => ?_)
        refine pure_ (i := 0) (N := (some 131)) (v := ?_) (a' := ?_) #[true, false, false, false, false, false, false, false, false, false, false, false, false, false, false, false, false] rfl rfl (any_of HT_.out (by kernel_rfl)) (fun _ _ _ h => h) (Or.inl ⟨by rfl, ?_⟩) ?_ ?_
        rotate_left
        · intro w'
          go_simp
          with_reducible rfl
        rotate_left
        · simp only [Act.put, List.setIfInBounds_toArray, List.set_cons_zero, List.set_cons_succ, i64_w, i32_w]
          rfl
        refine pure_ (i := 1) (N := (some 132)) (v := ?_) (a' := ?_) #[true, true, false, false, false, false, false, false, false, false, false, false, false, false, false, false, false] rfl rfl (any_of HT_.out (by kernel_rfl)) (fun _ _ _ h => h) (Or.inl ⟨by rfl, ?_⟩) ?_ ?_
        rotate_left
        · intro w'
          go_simp
          with_reducible rfl
        rotate_left
        · simp only [Act.put, List.setIfInBounds_toArray, List.set_cons_zero, List.set_cons_succ, i64_w, i32_w]
          rfl
        refine pure_ (i := 2) (N := (some 133)) (v := ?_) (a' := ?_) #[true, true, true, false, false, false, false, false, false, false, false, false, false, false, false, false, false] rfl rfl (any_of HT_.out (by kernel_rfl)) (fun _ _ _ h => h) (Or.inl ⟨by rfl, ?_⟩) ?_ ?_
        rotate_left
        · intro w'
          go_simp
          with_reducible rfl
        rotate_left
        · simp only [Act.put, List.setIfInBounds_toArray, List.set_cons_zero, List.set_cons_succ, i64_w, i32_w]
          rfl
        refine pure_ (i := 3) (N := (some 134)) (v := ?_) (a' := ?_) #[true, true, true, true, false, false, false, false, false, false, false, false, false, false, false, false, false] rfl rfl (any_of HT_.out (by kernel_rfl)) (fun _ _ _ h => h) (Or.inl ⟨by rfl, ?_⟩) ?_ ?_
        rotate_left
        · intro w'
          go_simp
          with_reducible rfl
        rotate_left
        · simp only [Act.put, List.setIfInBounds_toArray, List.set_cons_zero, List.set_cons_succ, i64_w, i32_w]
          rfl
        refine take_ (i := 4) (N := (some 135)) (v := ?_) (a' := ?_) #[true, true, true, true, true, false, false, false, false, false, false, false, false, false, false, false, false] rfl rfl (take_ofW HT_.out HW_.out (by kernel_rfl)) (fun _ _ _ h => h) (Or.inl ⟨by rfl, ?_⟩) hHeld ?_ ?_
        rotate_left
        · intro w' s0
          go_simp
          with_reducible rfl
        rotate_left
        · simp only [Act.put, List.setIfInBounds_toArray, List.set_cons_zero, List.set_cons_succ, i64_w, i32_w]
          rfl
        refine pure_ (i := 5) (N := (some 136)) (v := ?_) (a' := ?_) #[true, true, true, true, true, true, false, false, false, false, false, false, false, false, false, false, false] rfl rfl (any_of HT_.out (by kernel_rfl)) (fun _ _ _ h => h) (Or.inl ⟨by rfl, ?_⟩) ?_ ?_
        rotate_left
        · intro w'
          go_simp
          with_reducible rfl
        rotate_left
        · simp only [Act.put, List.setIfInBounds_toArray, List.set_cons_zero, List.set_cons_succ, i64_w, i32_w]
          rfl
        refine pure_ (i := 6) (N := (some 137)) (v := ?_) (a' := ?_) #[true, true, true, true, true, true, true, false, false, false, false, false, false, false, false, false, false] rfl rfl (any_of HT_.out (by kernel_rfl)) (fun _ _ _ h => h) (Or.inl ⟨by rfl, ?_⟩) ?_ ?_
        rotate_left
        · intro w'
          go_simp
          with_reducible rfl
        rotate_left
        · simp only [Act.put, List.setIfInBounds_toArray, List.set_cons_zero, List.set_cons_succ, i64_w, i32_w]
          rfl
        refine pure_ (i := 7) (N := (some 138)) (v := ?_) (a' := ?_) #[true, true, true, true, true, true, true, true, false, false, false, false, false, false, false, false, false] rfl rfl (any_of HT_.out (by kernel_rfl)) (fun _ _ _ h => h) (Or.inl ⟨by rfl, ?_⟩) ?_ ?_
        rotate_left
        · intro w'
          go_simp
          with_reducible rfl
        rotate_left
        · simp only [Act.put, List.setIfInBounds_toArray, List.set_cons_zero, List.set_cons_succ, i64_w, i32_w]
          rfl
        refine pure_ (i := 10) (N := (some 141)) (v := ?_) (a' := ?_) #[true, true, true, true, true, true, true, true, false, false, true, false, false, false, false, false, false] rfl rfl (any_of HT_.out (by kernel_rfl)) (fun _ _ _ h => h) (Or.inl ⟨by rfl, ?_⟩) ?_ ?_
        rotate_left
        · intro w'
          go_simp
          with_reducible rfl
        rotate_left
        · simp only [Act.put, List.setIfInBounds_toArray, List.set_cons_zero, List.set_cons_succ, i64_w, i32_w]
          rfl
        refine pure_ (i := 11) (N := (some 142)) (v := ?_) (a' := ?_) #[true, true, true, true, true, true, true, true, false, false, true, true, false, false, false, false, false] rfl rfl (any_of HT_.out (by kernel_rfl)) (fun _ _ _ h => h) (Or.inl ⟨by rfl, ?_⟩) ?_ ?_
        rotate_left
        · intro w'
          go_simp
          with_reducible rfl
        rotate_left
        · simp only [Act.put, List.setIfInBounds_toArray, List.set_cons_zero, List.set_cons_succ, i64_w, i32_w]
          rfl
        refine pure_ (i := 12) (N := (some 143)) (v := ?_) (a' := ?_) #[true, true, true, true, true, true, true, true, false, false, true, true, true, false, false, false, false] rfl rfl (any_of HT_.out (by kernel_rfl)) (fun _ _ _ h => h) (Or.inl ⟨by rfl, ?_⟩) ?_ ?_
        rotate_left
        · intro w'
          go_simp
          with_reducible rfl
        rotate_left
        · simp only [Act.put, List.setIfInBounds_toArray, List.set_cons_zero, List.set_cons_succ, i64_w, i32_w]
          rfl
        refine one_ (i := 8) (N := (some 139)) #[true, true, true, true, true, true, true, true, true, false, true, true, true, false, false, false, false] rfl rfl (one_of HT_.out (by kernel_rfl)) (by decide) (fun K hK => ?_)
        refine value_ (w1 := (wr.drew).alloc (.cells #[.slice A sd.length c] 42)) (v := .slice (some ⟨wr.drew.heap.size, 0, none⟩) 1 1) (by rfl) rfl (by first | (go_simp; done) | (go_simp; rfl)) ?_
        refine hK.out _ _ ((blk_cell (blk_alloc (blk_drew HR.out) _) 3).trans rfl) (fun hHeld => ?_)
        clear hK K
        refine norm_ (a' := ?_) ?_ ?_
        rotate_left
        · show Act.put _ (some 139) _ = _
          simp only [Act.put, List.setIfInBounds_toArray, List.set_cons_zero, List.set_cons_succ, i64_w, i32_w]
          rfl
        refine one_ (i := 9) (N := (some 140)) #[true, true, true, true, true, true, true, true, true, true, true, true, true, false, false, false, false] rfl rfl (one_of HT_.out (by kernel_rfl)) (by decide) (fun K hK => ?_)
        have eown : (Value.slice AT i1_ c0).ownBlock = (Value.slice AT T.length c0).ownBlock := by cases AT <;> rfl
        have hgr : ∀ k, wr.heap.size ≤ k → okA br s vs1 k := fun k hk => ⟨by have := blk_lt HR.out; omega, by have := HS.out.lt; omega, fun he => by have := Kd.S_lt HS.out.row k he.symm; omega⟩
        refine Kd.N_append_step (Kd.slice 5 (Kd.int .u8)) (w0 := wr.drew) lo (by rfl) (.tmp 137) (.tmp 139) 38 42 (.slice none 0 0) 24 rfl Tryd.underlying38 info42 rfl (by decide) (by omega) (.slice AT i1_ c0) (T.take i1_) sd [.slice A sd.length c] (okA br s vs1) (okB br s vs1 (.slice AT T.length c0)) rfl rfl (Kd.FK_slice_mk HCL.out (Kd.F_drew HSD.out)) (fun k hk => ⟨hk.1, by rw [eown]; exact hk.2⟩) hgr (Kd.N_drew (Kd.N_take HT.out HI.out.1)) (Below.refl _ _) ?hb9 ?hl9 ?_
        case hb9 => show lo ≤ wr.heap.size; have := KP.out.1.1; omega
        case hl9 => have := HI.out.1; rw [List.length_take]; omega
        intro v9 w9 ho9 hb9 hg9 hat9
        rw [eown] at hg9 hat9
        have hsz9 : wr.heap.size ≤ w9.heap.size := hb9.size
        have hm9 : Moved wr.heap.size (.slice AT T.length c0) v9 := hat9
        have hnf9 := Kd.N_ne HT.out HF.out (by decide)
        have hnr9 := Kd.N_ne HT.out HR.out (by decide)
        have hns9 := Kd.N_ne HT.out HS.out.cell (by decide)
        have HF9 := Aside0.mk (blk_grown (blk_drew HF.out) hg9 hnf9)
        have HR9 := Aside0.mk (blk_grown (blk_drew HR.out) hg9 hnr9)
        have HS9 := Aside0.mk (Seen.grown (w := wr.drew) ⟨blk_drew HS.out.cell, Kd.S_drew HS.out.row⟩ hg9 hm9 hns9)
        have KP9 := Aside0.mk (KeptB.of_grown hg9 KP.out.drew (fun k hk => Or.inl (Or.inr (Or.inr (Or.inr hk.symm)))))
        have HCF9 := Aside0.mk (Kd.F_mono (Kd.F_grown (Kd.F_bound (Kd.F_drew HCF.out)) hg9 (fun k hk => hk.1.2)) (fun k hk => okB.after (Moved.refl _ _) hm9 hk))
        have HT9 := Aside0.mk ho9
        have HM9 := Aside0.mk hm9
        have HZ9 := Aside0.mk hsz9
        clear HF HR HS KP HCF HSD ho9 hb9 hg9 hat9 hm9 hnf9 hnr9 hns9 hgr hsz9
        refine hK.out _ _ ((blk_cell HR9.out 3).trans rfl) (fun hHeld => ?_)
        clear hK K
        refine norm_ (a' := ?_) ?_ ?_
        rotate_left
        · show Act.put _ (some 140) _ = _
          simp only [Act.put, List.setIfInBounds_toArray, List.set_cons_zero, List.set_cons_succ, i64_w, i32_w]
          rfl
        refine one_ (i := 13) (N := (some 144)) #[true, true, true, true, true, true, true, true, true, true, true, true, true, true, false, false, false] rfl rfl (one_of HT_.out (by kernel_rfl)) (by decide) (fun K hK => ?_)
        have hgr : ∀ k, w9.heap.size ≤ k → okA br s vs1 k := fun k hk => ⟨by have := blk_lt HR9.out; omega, by have := HS9.out.lt; omega, fun he => by have := Kd.S_lt HS9.out.row k he.symm; omega⟩
        refine Kd.N_append_rows_step (Kd.slice 5 (Kd.int .u8)) (w0 := w9) lo (by rfl) (.tmp 140) (.tmp 143) 38 42 (.slice none 0 0) 24 rfl Tryd.underlying38 info42 rfl (by decide) (by omega) v9 (T.take i1_ ++ [sd]) (H_.drop i2_) A6 m6 c6 (okA br s vs1) (okB br s vs1 v9) rfl rfl HT9.out ?hf13 (fun k hk => hk) hgr (Below.refl _ _) ?hb13 ?hl13 ?_
        case hf13 => rw [← HM6.out]; exact HCF9.out
        case hb13 => have := KP9.out.1.1; omega
        case hl13 => have h1 := HI.out.1; have h2 := HM6.out; rw [List.length_drop] at h2; rw [List.length_append, List.length_take, List.length_singleton]; omega
        intro v13 w13 ho13 hb13 hg13 hat13
        have hm13 : Moved w9.heap.size v9 v13 := hat13
        have hnf13 := Kd.N_ne HT9.out HF9.out (by decide)
        have hnr13 := Kd.N_ne HT9.out HR9.out (by decide)
        have hns13 := Kd.N_ne HT9.out HS9.out.cell (by decide)
        have hM13 : Moved w.heap.size (.slice AT T.length c0) v13 := by
          have h1 := HM9.out.trans hm13 HZ9.out
          exact (Moved.refl _ _).trans h1 KP0.out
        have HF13 := Aside0.mk (blk_grown HF9.out hg13 hnf13)
        have HR13 := Aside0.mk (blk_grown HR9.out hg13 hnr13)
        have HS13 := Aside0.mk (Seen.grown HS9.out hg13 hm13 hns13)
        have KP13 := Aside0.mk (KeptB.of_grown hg13 KP9.out (S := fun k => k = br ∨ k = s ∨ some k = vs.ownBlock ∨ some k = (Value.slice AT T.length c0).ownBlock) (fun k hk => by
          rcases HM9.out with e | ⟨b_, e, hb_⟩
          · exact Or.inl (Or.inr (Or.inr (Or.inr (hk.symm.trans e))))
          · rw [e] at hk; injection hk with hk; have := KP0.out; exact Or.inr (by omega)))
        have HT13 := Aside0.mk ho13
        have HM13 := Aside0.mk hM13
        clear HF9 HR9 HS9 KP9 HCF9 ho13 hb13 hg13 hat13 hm13 hnf13 hnr13 hns13 hgr hM13 HT9 HM9
        obtain ⟨rr, hrr, HRR⟩ : ∃ rr, T.take i1_ ++ [sd] ++ H_.drop i2_ = rr ∧ Aside0 (rr = T.take i1_ ++ [sd] ++ H_.drop i2_) := ⟨_, rfl, ⟨rfl⟩⟩
        rw [hrr] at HT13
        clear hrr
        obtain ⟨A13, c13, e13⟩ := Kd.N_slice HT13.out
        subst e13
        refine hK.out _ _ ((blk_cell HR13.out 3).trans rfl) (fun hHeld => ?_)
        clear hK K
        refine norm_ (a' := ?_) ?_ ?_
        rotate_left
        · show Act.put _ (some 144) _ = _
          simp only [Act.put, List.setIfInBounds_toArray, List.set_cons_zero, List.set_cons_succ, i64_w, i32_w]
          rfl
        refine pure_ (i := 14) (N := (some 145)) (v := ?_) (a' := ?_) #[true, true, true, true, true, true, true, true, true, true, true, true, true, true, true, false, false] rfl rfl (any_of HT_.out (by kernel_rfl)) (fun _ _ _ h => h) (Or.inl ⟨by rfl, ?_⟩) ?_ ?_
        rotate_left
        · intro w'
          go_simp
          with_reducible rfl
        rotate_left
        · simp only [Act.put, List.setIfInBounds_toArray, List.set_cons_zero, List.set_cons_succ, i64_w, i32_w]
          rfl
        refine pure_ (i := 15) (N := (some 146)) (v := ?_) (a' := ?_) #[true, true, true, true, true, true, true, true, true, true, true, true, true, true, true, true, false] rfl rfl (any_of HT_.out (by kernel_rfl)) (fun _ _ _ h => h) (Or.inl ⟨by rfl, ?_⟩) ?_ ?_
        rotate_left
        · intro w'
          go_simp
          with_reducible rfl
        rotate_left
        · simp only [Act.put, List.setIfInBounds_toArray, List.set_cons_zero, List.set_cons_succ, i64_w, i32_w]
          rfl
        have hcx := (blk_cell HR13.out 3).trans rfl
        have hfx := blk_frozen HR13.out 3
        refine last_ (i := 16) (N := none) #[true, true, true, true, true, true, true, true, true, true, true, true, true, true, true, true, true] rfl rfl (one_of HT_.out (by kernel_rfl)) (by decide) (fun K hK => ?_)
        refine skip_ (w1 := ?_) (by rfl) rfl ?_ ?_
        rotate_left
        · go_simp
          rfl
        refine hK.out _ _ ?_
        clear hK K
        refine done_ (done_of HT_.out (by kernel_rfl)) ?_
        have HRs := Aside0.mk (blk_set HR13.out 3 (.slice A13 rr.length c13))
        have hcy : (w13.setCell ⟨br, 3, none⟩ (.slice A13 rr.length c13)).cell? ⟨br, 2, none⟩ = some (.int .u64 (e : Int)) := (blk_cell HRs.out 2).trans rfl
        have hfy : (w13.setCell ⟨br, 3, none⟩ (.slice A13 rr.length c13)).frozen? ⟨br, 2, none⟩ = false := blk_frozen HRs.out 2
        go_wp2
        go_ret
        obtain ⟨q1, q2, q3, q4⟩ := EQ.out
        subst q1 q2 q3 q4
        have hRR := HRR.out
        subst hRR
        have hbv : ∀ k, vs1.ownBlock = some k → s + 1 ≤ k := Kd.S_base HS13.out.row
        have ha : ∀ k, okA br s vs1 k → k ≠ br := fun k hk => hk.1
        have wF : ((w13.setCell ⟨br, 3, none⟩ (.slice A13 (T.take i1_ ++ [sd] ++ H_.drop i2_).length c13)).setCell ⟨br, 2, none⟩ (.int .u64 e2)).heap[bf]? = some (.cells (facCells h0 h1 h2 h3 h4 h5) 117 (0, 0)) := blk_far (blk_far HF13.out (blk_ne HF13.out HR13.out (by decide)) _) (blk_ne HF13.out HR13.out (by decide)) _
        have wR : ((w13.setCell ⟨br, 3, none⟩ (.slice A13 (T.take i1_ ++ [sd] ++ H_.drop i2_).length c13)).setCell ⟨br, 2, none⟩ (.int .u64 e2)).heap[br]? = some (.cells (rngCells bf b e2 (.slice A13 (T.take i1_ ++ [sd] ++ H_.drop i2_).length c13)) 167 (0, 0)) := blk_set HRs.out 2 (.int .u64 e2)
        have wT := Kd.N_far (Kd.N_far HT13.out (p := ⟨br, 3, none⟩) ha (.slice A13 (T.take i1_ ++ [sd] ++ H_.drop i2_).length c13)) (p := ⟨br, 2, none⟩) ha (.int .u64 e2)
        have wS : Seen ((w13.setCell ⟨br, 3, none⟩ (.slice A13 (T.take i1_ ++ [sd] ++ H_.drop i2_).length c13)).setCell ⟨br, 2, none⟩ (.int .u64 e2)) s (fun k => some k ≠ (Value.slice A13 (T.take i1_ ++ [sd] ++ H_.drop i2_).length c13).ownBlock) vs1 L1 := ⟨blk_far (blk_far HS13.out.cell (by show s ≠ br; omega) _) (by show s ≠ br; omega) _, Kd.S_far (Kd.S_far HS13.out.row (p := ⟨br, 3, none⟩) (fun k hk => by have := hk.1; show k ≠ br; omega) _) (p := ⟨br, 2, none⟩) (fun k hk => by have := hk.1; show k ≠ br; omega) _⟩
        have wK := (KP13.out.setCell (p := ⟨br, 3, none⟩) (Or.inl (Or.inl rfl)) (.slice A13 (T.take i1_ ++ [sd] ++ H_.drop i2_).length c13)).setCell (p := ⟨br, 2, none⟩) (Or.inl (Or.inl rfl)) (.int .u64 e2)
        exact ⟨A13, c13, vs1, by first | (go_simp; done) | (go_simp; rfl) | rfl, wF, wR, wT, wS, wK, HV.out, HM13.out⟩
end Go.Proofs.YtijldedhcjkhiaaDoor.T
