import Derived.Test.YtijldedhcjkhiaaDoorSTT0
import Derived.Test.YtijldedhcjkhiaaDoorSTT3
import Derived.Test.YtijldedhcjkhiaaDoorSTT6
import Derived.Test.YtijldedhcjkhiaaDoorSTT7
import Derived.Test.YtijldedhcjkhiaaDoorSTT8
namespace Go.Proofs.YtijldedhcjkhiaaDoor.T
open Go.RowKit Go.Proofs.YtijldedhcjkhiaaDoorW.PrintWords Go.Proofs.YtijldedhcjkhiaaDoorW.PrintLast Go.Proofs.YtijldedhcjkhiaaDoorW.PrintMore
attribute [local go_sem] max2_int min2_int max_two min_two max_three min_three max_four min_four   -- for this text's walks alone
set_option linter.unusedVariables false
set_option linter.unusedSimpArgs false
def compact_Range_AppendRange.T1 : Bool × List (List Nat × List Nat) := (true, [([], []), ([0], [0]), ([1], [1]), ([2], [2]), ([], []), ([4], [4]), ([5], [5]), ([6], [6]), ([3, 7], [3, 7])])
def compact_Range_AppendRange.B1 : List Nat := [0, 1, 3, 7, 0, 16, 48, 112, 255]
theorem compact_Range_AppendRange.tab1 : rtab .any (opsOf Tryd.f98 1) = compact_Range_AppendRange.T1 := by kernel_rfl
theorem compact_Range_AppendRange.bits1 : waitsOk compact_Range_AppendRange.T1.2 compact_Range_AppendRange.B1 = true := by kernel_rfl
def compact_Range_AppendRange.T3 : Bool × List (List Nat × List Nat) := (true, [([], []), ([0], [0]), ([1], [1]), ([2], [2]), ([], []), ([4], [4]), ([5], [5]), ([6], [6]), ([3, 0, 1, 2, 3], [3]), ([7, 8, 0, 1, 2, 3, 4, 5, 6, 7, 8], [7])])
def compact_Range_AppendRange.B3 : List Nat := [0, 1, 3, 7, 0, 16, 48, 112, 15, 511]
theorem compact_Range_AppendRange.tab3 : rtab .any (opsOf Tryd.f98 3) = compact_Range_AppendRange.T3 := by kernel_rfl
theorem compact_Range_AppendRange.bits3 : waitsOk compact_Range_AppendRange.T3.2 compact_Range_AppendRange.B3 = true := by kernel_rfl
def compact_Range_AppendRange.T8 : Bool × List (List Nat × List Nat) := (true, [([], []), ([], []), ([1], [1]), ([2], [2]), ([3], [3]), ([], []), ([5], [5]), ([6], [6]), ([7], [7]), ([8], [8]), ([9], [9]), ([], []), ([11], [11]), ([12], [12]), ([13], [13]), ([14], [14]), ([], []), ([0, 4, 10, 15, 16], [0, 4, 10, 15, 16]), ([17, 17, 0, 1, 2, 3, 4, 5, 6, 7, 8, 9, 10, 11, 12, 13, 14, 15, 16, 17], [17])])
def compact_Range_AppendRange.B8 : List Nat := [0, 0, 2, 6, 14, 0, 32, 96, 224, 480, 992, 0, 2048, 6144, 14336, 30720, 0, 131071, 262143]
theorem compact_Range_AppendRange.tab8 : rtab .any (opsOf Tryd.f98 8) = compact_Range_AppendRange.T8 := by kernel_rfl
theorem compact_Range_AppendRange.bits8 : waitsOk compact_Range_AppendRange.T8.2 compact_Range_AppendRange.B8 = true := by kernel_rfl
theorem ptr_same (a : Addr) (W : World) : Sem.run Tryd.prog (binOp .neq 111 (.pointer (some a)) (.pointer (some a))) W = .ok (.bool false) W := by
  have hd : Op.maxDepth = (Op.maxDepth - 1) + 1 := by decide
  have h : Sem.run Tryd.prog (Op.equalIn Op.maxDepth 111 (.pointer (some a)) (.pointer (some a))) W = .ok true W := by
    rw [hd]
    generalize Op.maxDepth - 1 = m
    simp [Op.equalIn, Tryd.underlying111, sameAddr]
  simp [binOp, Op.equal, h, Result.andThen]
theorem compact_Range_AppendRange.calls0 (bf br by_ vis s : Nat) (b e e2 : Int) (v : Value) (AO : Option Addr) (cO : Nat) (w : World) (hR : w.heap[br]? = some (.cells (rngCells bf b e v) 167 (0, 0))) (hY : w.heap[by_]? = some (.cells (rngCells bf e e2 (.slice AO 0 cO)) 167 (0, 0))) :
    Calls Tryd.prog 98 #[.pointer (some ⟨br, 0, none⟩), .pointer (some ⟨by_, 0, none⟩), .func (.func vis) #[] #[.pointer (some ⟨s, 0, none⟩)]] w fun e' w' => e' = .returned .nilIface ∧ Below w.heap.size w w' := by
  have hu38 := Tryd.underlying38
  have hu167 := Tryd.underlying167
  have hpe := ptr_same ⟨bf, 0, none⟩
  have HR := Aside0.mk hR
  have HY := Aside0.mk hY
  have HB := Aside0.mk (Below.refl w.heap.size w)
  clear hR hY
  go_enter Tryd.func98, Tryd.ntmps98
  go_wp2
  refine start_ (n := 9) (S := fun w' => w'.cell? ⟨by_, 0, none⟩ = some (.pointer (some ⟨bf, 0, none⟩)) ∧ w'.cell? ⟨br, 0, none⟩ = some (.pointer (some ⟨bf, 0, none⟩))) (ds := []) #[false, false, false, false, false, false, false, false, false] (by kernel_rfl) rfl rfl (⟨(blk_cell (blk_drew HY.out) 0).trans rfl, (blk_cell (blk_drew HR.out) 0).trans rfl⟩) (fun hHeld => ?_)
  refine with_tabW compact_Range_AppendRange.tab1 compact_Range_AppendRange.bits1 (fun HT_ HW_ => ?_)
  refine pure_ (i := 0) (N := (some 9)) (v := ?_) (a' := ?_) #[true, false, false, false, false, false, false, false, false] rfl rfl (any_of HT_.out (by kernel_rfl)) (fun _ _ _ h => h) (Or.inl ⟨by rfl, ?_⟩) ?_ ?_
  rotate_left
  · intro w'
    go_simp
    with_reducible rfl
  rotate_left
  · simp only [Act.put, List.setIfInBounds_toArray, List.set_cons_zero, List.set_cons_succ, i64_w, i32_w]
    rfl
  refine pure_ (i := 1) (N := (some 10)) (v := ?_) (a' := ?_) #[true, true, false, false, false, false, false, false, false] rfl rfl (any_of HT_.out (by kernel_rfl)) (fun _ _ _ h => h) (Or.inl ⟨by rfl, ?_⟩) ?_ ?_
  rotate_left
  · intro w'
    go_simp
    with_reducible rfl
  rotate_left
  · simp only [Act.put, List.setIfInBounds_toArray, List.set_cons_zero, List.set_cons_succ, i64_w, i32_w]
    rfl
  refine pure_ (i := 2) (N := (some 11)) (v := ?_) (a' := ?_) #[true, true, true, false, false, false, false, false, false] rfl rfl (any_of HT_.out (by kernel_rfl)) (fun _ _ _ h => h) (Or.inl ⟨by rfl, ?_⟩) ?_ ?_
  rotate_left
  · intro w'
    go_simp
    with_reducible rfl
  rotate_left
  · simp only [Act.put, List.setIfInBounds_toArray, List.set_cons_zero, List.set_cons_succ, i64_w, i32_w]
    rfl
  refine take_ (i := 3) (N := (some 12)) (v := ?_) (a' := ?_) #[true, true, true, true, false, false, false, false, false] rfl rfl (take_ofW HT_.out HW_.out (by kernel_rfl)) (fun _ _ _ h => h) (Or.inl ⟨by rfl, ?_⟩) hHeld ?_ ?_
  rotate_left
  · rintro w' ⟨s0, s1⟩
    go_simp
    with_reducible rfl
  rotate_left
  · simp only [Act.put, List.setIfInBounds_toArray, List.set_cons_zero, List.set_cons_succ, i64_w, i32_w]
    rfl
  refine pure_ (i := 4) (N := (some 13)) (v := ?_) (a' := ?_) #[true, true, true, true, true, false, false, false, false] rfl rfl (any_of HT_.out (by kernel_rfl)) (fun _ _ _ h => h) (Or.inl ⟨by rfl, ?_⟩) ?_ ?_
  rotate_left
  · intro w'
    go_simp
    with_reducible rfl
  rotate_left
  · simp only [Act.put, List.setIfInBounds_toArray, List.set_cons_zero, List.set_cons_succ, i64_w, i32_w]
    rfl
  refine pure_ (i := 5) (N := (some 14)) (v := ?_) (a' := ?_) #[true, true, true, true, true, true, false, false, false] rfl rfl (any_of HT_.out (by kernel_rfl)) (fun _ _ _ h => h) (Or.inl ⟨by rfl, ?_⟩) ?_ ?_
  rotate_left
  · intro w'
    go_simp
    with_reducible rfl
  rotate_left
  · simp only [Act.put, List.setIfInBounds_toArray, List.set_cons_zero, List.set_cons_succ, i64_w, i32_w]
    rfl
  refine pure_ (i := 6) (N := (some 15)) (v := ?_) (a' := ?_) #[true, true, true, true, true, true, true, false, false] rfl rfl (any_of HT_.out (by kernel_rfl)) (fun _ _ _ h => h) (Or.inl ⟨by rfl, ?_⟩) ?_ ?_
  rotate_left
  · intro w'
    go_simp
    with_reducible rfl
  rotate_left
  · simp only [Act.put, List.setIfInBounds_toArray, List.set_cons_zero, List.set_cons_succ, i64_w, i32_w]
    rfl
  refine take_ (i := 7) (N := (some 16)) (v := ?_) (a' := ?_) #[true, true, true, true, true, true, true, true, false] rfl rfl (take_ofW HT_.out HW_.out (by kernel_rfl)) (fun _ _ _ h => h) (Or.inl ⟨by rfl, ?_⟩) hHeld ?_ ?_
  rotate_left
  · rintro w' ⟨s0, s1⟩
    go_simp
    with_reducible rfl
  rotate_left
  · simp only [Act.put, List.setIfInBounds_toArray, List.set_cons_zero, List.set_cons_succ, i64_w, i32_w]
    rfl
  refine pure_ (i := 8) (N := (some 17)) (v := ?_) (a' := ?_) #[true, true, true, true, true, true, true, true, true] rfl rfl (any_of HT_.out (by kernel_rfl)) (fun _ _ _ h => h) (Or.inl ⟨by rfl, ?_⟩) ?_ ?_
  rotate_left
  · intro w'
    go_simp
    with_reducible rfl
  rotate_left
  · simp only [Act.put, List.setIfInBounds_toArray, List.set_cons_zero, List.set_cons_succ, i64_w, i32_w]
    rfl
  refine done_ (done_of HT_.out (by kernel_rfl)) ?_
  go_wp2
  refine start_ (n := 10) (S := fun w' => w'.cell? ⟨by_, 1, none⟩ = some (.int .u64 e) ∧ w'.cell? ⟨br, 2, none⟩ = some (.int .u64 e)) (ds := []) #[false, false, false, false, false, false, false, false, false, false] (by kernel_rfl) rfl rfl (⟨(blk_cell (blk_drew (blk_drew HY.out)) 1).trans rfl, (blk_cell (blk_drew (blk_drew HR.out)) 2).trans rfl⟩) (fun hHeld => ?_)
  refine with_tabW compact_Range_AppendRange.tab3 compact_Range_AppendRange.bits3 (fun HT_ HW_ => ?_)
  refine pure_ (i := 0) (N := (some 19)) (v := ?_) (a' := ?_) #[true, false, false, false, false, false, false, false, false, false] rfl rfl (any_of HT_.out (by kernel_rfl)) (fun _ _ _ h => h) (Or.inl ⟨by rfl, ?_⟩) ?_ ?_
  rotate_left
  · intro w'
    go_simp
    with_reducible rfl
  rotate_left
  · simp only [Act.put, List.setIfInBounds_toArray, List.set_cons_zero, List.set_cons_succ, i64_w, i32_w]
    rfl
  refine pure_ (i := 1) (N := (some 20)) (v := ?_) (a' := ?_) #[true, true, false, false, false, false, false, false, false, false] rfl rfl (any_of HT_.out (by kernel_rfl)) (fun _ _ _ h => h) (Or.inl ⟨by rfl, ?_⟩) ?_ ?_
  rotate_left
  · intro w'
    go_simp
    with_reducible rfl
  rotate_left
  · simp only [Act.put, List.setIfInBounds_toArray, List.set_cons_zero, List.set_cons_succ, i64_w, i32_w]
    rfl
  refine pure_ (i := 2) (N := (some 21)) (v := ?_) (a' := ?_) #[true, true, true, false, false, false, false, false, false, false] rfl rfl (any_of HT_.out (by kernel_rfl)) (fun _ _ _ h => h) (Or.inl ⟨by rfl, ?_⟩) ?_ ?_
  rotate_left
  · intro w'
    go_simp
    with_reducible rfl
  rotate_left
  · simp only [Act.put, List.setIfInBounds_toArray, List.set_cons_zero, List.set_cons_succ, i64_w, i32_w]
    rfl
  refine take_ (i := 3) (N := (some 22)) (v := ?_) (a' := ?_) #[true, true, true, true, false, false, false, false, false, false] rfl rfl (take_ofW HT_.out HW_.out (by kernel_rfl)) (fun _ _ _ h => h) (Or.inl ⟨by rfl, ?_⟩) hHeld ?_ ?_
  rotate_left
  · rintro w' ⟨s0, s1⟩
    go_simp
    with_reducible rfl
  rotate_left
  · simp only [Act.put, List.setIfInBounds_toArray, List.set_cons_zero, List.set_cons_succ, i64_w, i32_w]
    rfl
  refine pure_ (i := 4) (N := (some 23)) (v := ?_) (a' := ?_) #[true, true, true, true, true, false, false, false, false, false] rfl rfl (any_of HT_.out (by kernel_rfl)) (fun _ _ _ h => h) (Or.inl ⟨by rfl, ?_⟩) ?_ ?_
  rotate_left
  · intro w'
    go_simp
    with_reducible rfl
  rotate_left
  · simp only [Act.put, List.setIfInBounds_toArray, List.set_cons_zero, List.set_cons_succ, i64_w, i32_w]
    rfl
  refine pure_ (i := 5) (N := (some 24)) (v := ?_) (a' := ?_) #[true, true, true, true, true, true, false, false, false, false] rfl rfl (any_of HT_.out (by kernel_rfl)) (fun _ _ _ h => h) (Or.inl ⟨by rfl, ?_⟩) ?_ ?_
  rotate_left
  · intro w'
    go_simp
    with_reducible rfl
  rotate_left
  · simp only [Act.put, List.setIfInBounds_toArray, List.set_cons_zero, List.set_cons_succ, i64_w, i32_w]
    rfl
  refine pure_ (i := 6) (N := (some 25)) (v := ?_) (a' := ?_) #[true, true, true, true, true, true, true, false, false, false] rfl rfl (any_of HT_.out (by kernel_rfl)) (fun _ _ _ h => h) (Or.inl ⟨by rfl, ?_⟩) ?_ ?_
  rotate_left
  · intro w'
    go_simp
    with_reducible rfl
  rotate_left
  · simp only [Act.put, List.setIfInBounds_toArray, List.set_cons_zero, List.set_cons_succ, i64_w, i32_w]
    rfl
  refine take_ (i := 7) (N := (some 26)) (v := ?_) (a' := ?_) #[true, true, true, true, true, true, true, true, false, false] rfl rfl (take_ofW HT_.out HW_.out (by kernel_rfl)) (fun _ _ _ h => h) (Or.inl ⟨by rfl, ?_⟩) hHeld ?_ ?_
  rotate_left
  · rintro w' ⟨s0, s1⟩
    go_simp
    with_reducible rfl
  rotate_left
  · simp only [Act.put, List.setIfInBounds_toArray, List.set_cons_zero, List.set_cons_succ, i64_w, i32_w]
    rfl
  refine pure_ (i := 8) (N := (some 7)) (v := ?_) (a' := ?_) #[true, true, true, true, true, true, true, true, true, false] rfl rfl (any_of HT_.out (by kernel_rfl)) (fun _ _ _ h => h) (Or.inl ⟨by rfl, ?_⟩) ?_ ?_
  rotate_left
  · intro w'
    go_simp
    with_reducible rfl
  rotate_left
  · simp only [Act.put, List.setIfInBounds_toArray, List.set_cons_zero, List.set_cons_succ, i64_w, i32_w]
    rfl
  refine pure_ (i := 9) (N := (some 8)) (v := ?_) (a' := ?_) #[true, true, true, true, true, true, true, true, true, true] rfl rfl (any_of HT_.out (by kernel_rfl)) (fun _ _ _ h => h) (Or.inl ⟨by rfl, ?_⟩) ?_ ?_
  rotate_left
  · intro w'
    go_simp
    with_reducible rfl
  rotate_left
  · simp only [Act.put, List.setIfInBounds_toArray, List.set_cons_zero, List.set_cons_succ, i64_w, i32_w]
    rfl
  refine done_ (done_of HT_.out (by kernel_rfl)) ?_
  have hc3 : w.drew.drew.cell? ⟨by_, 3, none⟩ = some (.slice AO 0 cO) := (blk_cell (blk_drew (blk_drew HY.out)) 3).trans rfl
  go_wp2
  go_ret
  exact ⟨rfl, (by repeat (first | (with_reducible first | exact HB.out | apply below_alloc | apply pw_below_drewN | apply below_drew1) | exact HB.out))⟩
set_option maxHeartbeats 8000000 in
set_option maxRecDepth 100000 in
theorem compact_Range_AppendRange.calls (k : Nat) (h0 h1 h2 h3 h4 h5 : Int) (bf br by_ s lo low hi0 hi x0 ones : Nat) (b : Int) (e : Nat) (e2 : Int) (vis : Nat) (hV : VisOk vis) (c0 cO : Nat) (AT AO : Option Addr) (T H_ : List (List Int)) (seed : List Int) (vs : Value) (L : List S88) (T' : List Int) (i1 i2 : Nat) (L' : List S88) (w : World) (hGT : GlobT w)
    (hmp : compact_getMergePath.f b (e : Int) e2 = some ((low : Int), (hi0 : Int))) (hl : low ≤ 64) (hh : hi0 ≤ 64) (hhi : hi = if hi0 < low then low else hi0) (he : e < 18446744073709551616) (hx : x0 = e / 2 ^ low)
    (hon : bits_OnesCount64.f (Go.bits .and .u64 (x0 : Int) ((2 ^ (hi - low) - 1 : Nat) : Int)) = some (ones : Int)) (ho1 : ones ≤ T.length) (ho2 : (hi - low : Nat) ≤ H_.length + ones) (hT1 : T.length ≤ 1000000) (hH1 : H_.length ≤ 1000000) (hLB : L.length < 900000)
    (hap : apl k h0 h1 h2 h3 h4 h5 T H_ (hi - low) low T.length 0 x0 seed L = some (T', i1, i2, L'))
    (hF : w.heap[bf]? = some (.cells (facCells h0 h1 h2 h3 h4 h5) 117 (0, 0))) (hR : w.heap[br]? = some (.cells (rngCells bf b (e : Int) (.slice AT T.length c0)) 167 (0, 0))) (hY : w.heap[by_]? = some (.cells (rngCells bf (e : Int) e2 (.slice AO (seed :: H_).length cO)) 167 (0, 0)))
    (hT : Kd.N (Kd.slice 5 (Kd.int .u8)) 42 w lo (okA br s vs) (.slice AT T.length c0) T) (hcO : (seed :: H_).length ≤ cO) (hH : Kd.F (Kd.slice 5 (Kd.int .u8)) w (okB br s vs (.slice AT T.length c0)) AO (seed :: H_).length (seed :: H_))
    (hS : Seen w s (fun k => some k ≠ (Value.slice AT T.length c0).ownBlock) vs L) (hbs : br < s) (hfs : bf < s) (hlo : lo ≤ w.heap.size) :
    Calls Tryd.prog 98 #[.pointer (some ⟨br, 0, none⟩), .pointer (some ⟨by_, 0, none⟩), .func (.func vis) #[] #[.pointer (some ⟨s, 0, none⟩)]] w fun e' w' => ∃ (A' : Option Addr) (c' : Nat) (vs' : Value), e' = .returned .nilIface ∧ w'.heap[bf]? = some (.cells (facCells h0 h1 h2 h3 h4 h5) 117 (0, 0)) ∧ w'.heap[br]? = some (.cells (rngCells bf b e2 (.slice A' (T.take i1 ++ [T'] ++ H_.drop i2).length c')) 167 (0, 0)) ∧ Kd.N (Kd.slice 5 (Kd.int .u8)) 42 w' lo (okA br s vs') (.slice A' (T.take i1 ++ [T'] ++ H_.drop i2).length c') (T.take i1 ++ [T'] ++ H_.drop i2) ∧ Seen w' s (fun k => some k ≠ (Value.slice A' (T.take i1 ++ [T'] ++ H_.drop i2).length c').ownBlock) vs' L' ∧ KeptB w w' (fun k => k = br ∨ k = s ∨ some k = vs.ownBlock ∨ some k = (Value.slice AT T.length c0).ownBlock) := by
  have hu38 := Tryd.underlying38
  have hu42 := Tryd.underlying42
  have hu167 := Tryd.underlying167
  have hpe := ptr_same ⟨bf, 0, none⟩
  have HF := Aside0.mk hF
  have HR := Aside0.mk hR
  have HY := Aside0.mk hY
  have HT := Aside0.mk hT
  have HH := Aside0.mk hH
  have HS := Aside0.mk hS
  have HB := Aside0.mk (Below.refl w.heap.size w)
  obtain ⟨hn, hhn⟩ : ∃ hn, hn = (seed :: H_).length := ⟨_, rfl⟩
  have HHN := Aside0.mk (show hn = H_.length + 1 by rw [hhn, List.length_cons])
  rw [← hhn] at hcO
  have HY := Aside0.mk (hhn ▸ HY.out)
  have HH := Aside0.mk (hhn ▸ HH.out)
  have HCO := Aside0.mk hcO
  have hn0 : ((hn : Int) = 0) = False := eq_false (by have := HHN.out; omega)
  have hn1 : (hn = 0) = False := eq_false (by have := HHN.out; omega)
  have hn2 : ((hn : Int) == 0) = false := by have := HHN.out; simp; omega
  have hn3 : decide (hn = 0) = false := decide_eq_false (by have := HHN.out; omega)
  clear hF hR hY hT hH hS hhn hcO
  go_enter Tryd.func98, Tryd.ntmps98
  go_wp2
  refine start_ (n := 9) (S := fun w' => w'.cell? ⟨by_, 0, none⟩ = some (.pointer (some ⟨bf, 0, none⟩)) ∧ w'.cell? ⟨br, 0, none⟩ = some (.pointer (some ⟨bf, 0, none⟩))) (ds := []) #[false, false, false, false, false, false, false, false, false] (by kernel_rfl) rfl rfl (⟨(blk_cell (blk_drew HY.out) 0).trans rfl, (blk_cell (blk_drew HR.out) 0).trans rfl⟩) (fun hHeld => ?_)
  refine with_tabW compact_Range_AppendRange.tab1 compact_Range_AppendRange.bits1 (fun HT_ HW_ => ?_)
  refine pure_ (i := 0) (N := (some 9)) (v := ?_) (a' := ?_) #[true, false, false, false, false, false, false, false, false] rfl rfl (any_of HT_.out (by kernel_rfl)) (fun _ _ _ h => h) (Or.inl ⟨by rfl, ?_⟩) ?_ ?_
  rotate_left
  · intro w'
    go_simp
    with_reducible rfl
  rotate_left
  · simp only [Act.put, List.setIfInBounds_toArray, List.set_cons_zero, List.set_cons_succ, i64_w, i32_w]
    rfl
  refine pure_ (i := 1) (N := (some 10)) (v := ?_) (a' := ?_) #[true, true, false, false, false, false, false, false, false] rfl rfl (any_of HT_.out (by kernel_rfl)) (fun _ _ _ h => h) (Or.inl ⟨by rfl, ?_⟩) ?_ ?_
  rotate_left
  · intro w'
    go_simp
    with_reducible rfl
  rotate_left
  · simp only [Act.put, List.setIfInBounds_toArray, List.set_cons_zero, List.set_cons_succ, i64_w, i32_w]
    rfl
  refine pure_ (i := 2) (N := (some 11)) (v := ?_) (a' := ?_) #[true, true, true, false, false, false, false, false, false] rfl rfl (any_of HT_.out (by kernel_rfl)) (fun _ _ _ h => h) (Or.inl ⟨by rfl, ?_⟩) ?_ ?_
  rotate_left
  · intro w'
    go_simp
    with_reducible rfl
  rotate_left
  · simp only [Act.put, List.setIfInBounds_toArray, List.set_cons_zero, List.set_cons_succ, i64_w, i32_w]
    rfl
  refine take_ (i := 3) (N := (some 12)) (v := ?_) (a' := ?_) #[true, true, true, true, false, false, false, false, false] rfl rfl (take_ofW HT_.out HW_.out (by kernel_rfl)) (fun _ _ _ h => h) (Or.inl ⟨by rfl, ?_⟩) hHeld ?_ ?_
  rotate_left
  · rintro w' ⟨s0, s1⟩
    go_simp
    with_reducible rfl
  rotate_left
  · simp only [Act.put, List.setIfInBounds_toArray, List.set_cons_zero, List.set_cons_succ, i64_w, i32_w]
    rfl
  refine pure_ (i := 4) (N := (some 13)) (v := ?_) (a' := ?_) #[true, true, true, true, true, false, false, false, false] rfl rfl (any_of HT_.out (by kernel_rfl)) (fun _ _ _ h => h) (Or.inl ⟨by rfl, ?_⟩) ?_ ?_
  rotate_left
  · intro w'
    go_simp
    with_reducible rfl
  rotate_left
  · simp only [Act.put, List.setIfInBounds_toArray, List.set_cons_zero, List.set_cons_succ, i64_w, i32_w]
    rfl
  refine pure_ (i := 5) (N := (some 14)) (v := ?_) (a' := ?_) #[true, true, true, true, true, true, false, false, false] rfl rfl (any_of HT_.out (by kernel_rfl)) (fun _ _ _ h => h) (Or.inl ⟨by rfl, ?_⟩) ?_ ?_
  rotate_left
  · intro w'
    go_simp
    with_reducible rfl
  rotate_left
  · simp only [Act.put, List.setIfInBounds_toArray, List.set_cons_zero, List.set_cons_succ, i64_w, i32_w]
    rfl
  refine pure_ (i := 6) (N := (some 15)) (v := ?_) (a' := ?_) #[true, true, true, true, true, true, true, false, false] rfl rfl (any_of HT_.out (by kernel_rfl)) (fun _ _ _ h => h) (Or.inl ⟨by rfl, ?_⟩) ?_ ?_
  rotate_left
  · intro w'
    go_simp
    with_reducible rfl
  rotate_left
  · simp only [Act.put, List.setIfInBounds_toArray, List.set_cons_zero, List.set_cons_succ, i64_w, i32_w]
    rfl
  refine take_ (i := 7) (N := (some 16)) (v := ?_) (a' := ?_) #[true, true, true, true, true, true, true, true, false] rfl rfl (take_ofW HT_.out HW_.out (by kernel_rfl)) (fun _ _ _ h => h) (Or.inl ⟨by rfl, ?_⟩) hHeld ?_ ?_
  rotate_left
  · rintro w' ⟨s0, s1⟩
    go_simp
    with_reducible rfl
  rotate_left
  · simp only [Act.put, List.setIfInBounds_toArray, List.set_cons_zero, List.set_cons_succ, i64_w, i32_w]
    rfl
  refine pure_ (i := 8) (N := (some 17)) (v := ?_) (a' := ?_) #[true, true, true, true, true, true, true, true, true] rfl rfl (any_of HT_.out (by kernel_rfl)) (fun _ _ _ h => h) (Or.inl ⟨by rfl, ?_⟩) ?_ ?_
  rotate_left
  · intro w'
    go_simp
    with_reducible rfl
  rotate_left
  · simp only [Act.put, List.setIfInBounds_toArray, List.set_cons_zero, List.set_cons_succ, i64_w, i32_w]
    rfl
  refine done_ (done_of HT_.out (by kernel_rfl)) ?_
  go_wp2
  refine start_ (n := 10) (S := fun w' => w'.cell? ⟨by_, 1, none⟩ = some (.int .u64 (e : Int)) ∧ w'.cell? ⟨br, 2, none⟩ = some (.int .u64 (e : Int))) (ds := []) #[false, false, false, false, false, false, false, false, false, false] (by kernel_rfl) rfl rfl (⟨(blk_cell (blk_drew (blk_drew HY.out)) 1).trans rfl, (blk_cell (blk_drew (blk_drew HR.out)) 2).trans rfl⟩) (fun hHeld => ?_)
  refine with_tabW compact_Range_AppendRange.tab3 compact_Range_AppendRange.bits3 (fun HT_ HW_ => ?_)
  refine pure_ (i := 0) (N := (some 19)) (v := ?_) (a' := ?_) #[true, false, false, false, false, false, false, false, false, false] rfl rfl (any_of HT_.out (by kernel_rfl)) (fun _ _ _ h => h) (Or.inl ⟨by rfl, ?_⟩) ?_ ?_
  rotate_left
  · intro w'
    go_simp
    with_reducible rfl
  rotate_left
  · simp only [Act.put, List.setIfInBounds_toArray, List.set_cons_zero, List.set_cons_succ, i64_w, i32_w]
    rfl
  refine pure_ (i := 1) (N := (some 20)) (v := ?_) (a' := ?_) #[true, true, false, false, false, false, false, false, false, false] rfl rfl (any_of HT_.out (by kernel_rfl)) (fun _ _ _ h => h) (Or.inl ⟨by rfl, ?_⟩) ?_ ?_
  rotate_left
  · intro w'
    go_simp
    with_reducible rfl
  rotate_left
  · simp only [Act.put, List.setIfInBounds_toArray, List.set_cons_zero, List.set_cons_succ, i64_w, i32_w]
    rfl
  refine pure_ (i := 2) (N := (some 21)) (v := ?_) (a' := ?_) #[true, true, true, false, false, false, false, false, false, false] rfl rfl (any_of HT_.out (by kernel_rfl)) (fun _ _ _ h => h) (Or.inl ⟨by rfl, ?_⟩) ?_ ?_
  rotate_left
  · intro w'
    go_simp
    with_reducible rfl
  rotate_left
  · simp only [Act.put, List.setIfInBounds_toArray, List.set_cons_zero, List.set_cons_succ, i64_w, i32_w]
    rfl
  refine take_ (i := 3) (N := (some 22)) (v := ?_) (a' := ?_) #[true, true, true, true, false, false, false, false, false, false] rfl rfl (take_ofW HT_.out HW_.out (by kernel_rfl)) (fun _ _ _ h => h) (Or.inl ⟨by rfl, ?_⟩) hHeld ?_ ?_
  rotate_left
  · rintro w' ⟨s0, s1⟩
    go_simp
    with_reducible rfl
  rotate_left
  · simp only [Act.put, List.setIfInBounds_toArray, List.set_cons_zero, List.set_cons_succ, i64_w, i32_w]
    rfl
  refine pure_ (i := 4) (N := (some 23)) (v := ?_) (a' := ?_) #[true, true, true, true, true, false, false, false, false, false] rfl rfl (any_of HT_.out (by kernel_rfl)) (fun _ _ _ h => h) (Or.inl ⟨by rfl, ?_⟩) ?_ ?_
  rotate_left
  · intro w'
    go_simp
    with_reducible rfl
  rotate_left
  · simp only [Act.put, List.setIfInBounds_toArray, List.set_cons_zero, List.set_cons_succ, i64_w, i32_w]
    rfl
  refine pure_ (i := 5) (N := (some 24)) (v := ?_) (a' := ?_) #[true, true, true, true, true, true, false, false, false, false] rfl rfl (any_of HT_.out (by kernel_rfl)) (fun _ _ _ h => h) (Or.inl ⟨by rfl, ?_⟩) ?_ ?_
  rotate_left
  · intro w'
    go_simp
    with_reducible rfl
  rotate_left
  · simp only [Act.put, List.setIfInBounds_toArray, List.set_cons_zero, List.set_cons_succ, i64_w, i32_w]
    rfl
  refine pure_ (i := 6) (N := (some 25)) (v := ?_) (a' := ?_) #[true, true, true, true, true, true, true, false, false, false] rfl rfl (any_of HT_.out (by kernel_rfl)) (fun _ _ _ h => h) (Or.inl ⟨by rfl, ?_⟩) ?_ ?_
  rotate_left
  · intro w'
    go_simp
    with_reducible rfl
  rotate_left
  · simp only [Act.put, List.setIfInBounds_toArray, List.set_cons_zero, List.set_cons_succ, i64_w, i32_w]
    rfl
  refine take_ (i := 7) (N := (some 26)) (v := ?_) (a' := ?_) #[true, true, true, true, true, true, true, true, false, false] rfl rfl (take_ofW HT_.out HW_.out (by kernel_rfl)) (fun _ _ _ h => h) (Or.inl ⟨by rfl, ?_⟩) hHeld ?_ ?_
  rotate_left
  · rintro w' ⟨s0, s1⟩
    go_simp
    with_reducible rfl
  rotate_left
  · simp only [Act.put, List.setIfInBounds_toArray, List.set_cons_zero, List.set_cons_succ, i64_w, i32_w]
    rfl
  refine pure_ (i := 8) (N := (some 7)) (v := ?_) (a' := ?_) #[true, true, true, true, true, true, true, true, true, false] rfl rfl (any_of HT_.out (by kernel_rfl)) (fun _ _ _ h => h) (Or.inl ⟨by rfl, ?_⟩) ?_ ?_
  rotate_left
  · intro w'
    go_simp
    with_reducible rfl
  rotate_left
  · simp only [Act.put, List.setIfInBounds_toArray, List.set_cons_zero, List.set_cons_succ, i64_w, i32_w]
    rfl
  refine pure_ (i := 9) (N := (some 8)) (v := ?_) (a' := ?_) #[true, true, true, true, true, true, true, true, true, true] rfl rfl (any_of HT_.out (by kernel_rfl)) (fun _ _ _ h => h) (Or.inl ⟨by rfl, ?_⟩) ?_ ?_
  rotate_left
  · intro w'
    go_simp
    with_reducible rfl
  rotate_left
  · simp only [Act.put, List.setIfInBounds_toArray, List.set_cons_zero, List.set_cons_succ, i64_w, i32_w]
    rfl
  refine done_ (done_of HT_.out (by kernel_rfl)) ?_
  have hc3 : w.drew.drew.cell? ⟨by_, 3, none⟩ = some (.slice AO hn cO) := (blk_cell (blk_drew (blk_drew HY.out)) 3).trans rfl
  go_wp2
  have hb3 : Below w.heap.size w w.drew.drew.drew := below_drew1 (below_drew1 (below_drew1 (Below.refl w.heap.size w)))
  have HF1 := Aside0.mk (blk_below HF.out hb3)
  have HR1 := Aside0.mk (blk_below HR.out hb3)
  have HY1 := Aside0.mk (blk_below HY.out hb3)
  have HT1 := Aside0.mk (Kd.N_below HT.out hb3)
  have HH1 := Aside0.mk (F_belowR HH.out hb3)
  have HS1 := Aside0.mk (HS.out.below hb3)
  have HG1 := Aside0.mk (hGT.below hb3)
  have HB1 := Aside0.mk hb3
  clear HF HR HY HT HH HS HB hb3 hc3
  have HF := HF1
  have HR := HR1
  have HY := HY1
  have HT := HT1
  have HH := HH1
  have HS := HS1
  have HB := HB1
  clear HF1 HR1 HY1 HT1 HH1 HS1 HB1
  obtain ⟨ad, A4, c4, eAO, hx4, hl4, hF4⟩ := f_row_at HH.out 0 (by have := HHN.out; omega)
  subst eAO
  rw [show (seed :: H_).getD 0 [] = seed from rfl] at hx4 hl4 hF4
  obtain ⟨i0_, hi0_, _, hsz_, _⟩ := info_parts info42
  have hcut := cut_from (P := Tryd.prog) 38 42 .i64 Tryd.underlying38 hi0_ 1 hsz_ (some ad) hn cO (1 : Int) (by omega) (by have := HHN.out; omega)
  rw [show (1 : Int).toNat = 1 from rfl] at hcut
  have hcF := F_cutR (c := cO) (m := 1) (by have h := HH.out; rw [show hn = (seed :: H_).length by rw [List.length_cons]; exact HHN.out] at h; exact h) (by simp) (by rw [List.length_cons, ← HHN.out]; exact HCO.out)
  rw [show (seed :: H_).drop 1 = H_ from rfl] at hcF
  obtain ⟨A6, hA6⟩ : ∃ A6, A6 = (if cO = 1 then some ad else (some ad).map (·.add (1 * 1))) := ⟨_, rfl⟩
  rw [← hA6] at hcut hcF
  rw [show hn - 1 = H_.length by have := HHN.out; omega] at hcut
  have HCF := Aside0.mk hcF
  have hi1 : ((0 : Int) < (hn : Int)) = True := eq_true (by have := HHN.out; omega)
  have hi2 : (0 < hn) = True := eq_true (by have := HHN.out; omega)
  have ead : ad.add 0 = ad := by unfold Addr.add; first | rfl | (split <;> simp)
  rw [ead] at hx4
  have HX4 := Aside0.mk hx4
  have HL4 := Aside0.mk hl4
  have HF4 := Aside0.mk hF4
  clear hA6 hcF hx4 hl4 hF4 hi0_ hsz_ HH
  refine start_ (n := 19) (S := fun w' => w'.cell? ⟨by_, 2, none⟩ = some (.int .u64 e2) ∧ w'.cell? ⟨by_, 3, none⟩ = some (.slice (some ad) hn cO) ∧ w'.cell? ad = some (.slice A4 seed.length c4)) (ds := [17]) #[false, false, false, false, false, false, false, false, false, false, false, false, false, false, false, false, false, false, false] (by kernel_rfl) rfl rfl (⟨(blk_cell HY.out 2).trans rfl, (blk_cell HY.out 3).trans rfl, HX4.out⟩) (fun hHeld => ?_)
  refine with_tabW compact_Range_AppendRange.tab8 compact_Range_AppendRange.bits8 (fun HT_ HW_ => ?_)
  generalize w.drew.drew.drew = w3 at HF HR HY HT HS HB HG1 HCF HX4 HF4 hHeld ⊢
  refine pure_ (i := 0) (N := (some 37)) (v := ?_) (a' := ?_) #[true, false, false, false, false, false, false, false, false, false, false, false, false, false, false, false, false, false, false] rfl rfl (any_of HT_.out (by kernel_rfl)) (fun _ _ _ h => h) (Or.inl ⟨by rfl, ?_⟩) ?_ ?_
  rotate_left
  · intro w'
    go_simp
    with_reducible rfl
  rotate_left
  · simp only [Act.put, List.setIfInBounds_toArray, List.set_cons_zero, List.set_cons_succ, i64_w, i32_w]
    rfl
  refine pure_ (i := 1) (N := (some 38)) (v := ?_) (a' := ?_) #[true, true, false, false, false, false, false, false, false, false, false, false, false, false, false, false, false, false, false] rfl rfl (any_of HT_.out (by kernel_rfl)) (fun _ _ _ h => h) (Or.inl ⟨by rfl, ?_⟩) ?_ ?_
  rotate_left
  · intro w'
    go_simp
    with_reducible rfl
  rotate_left
  · simp only [Act.put, List.setIfInBounds_toArray, List.set_cons_zero, List.set_cons_succ, i64_w, i32_w]
    rfl
  refine pure_ (i := 2) (N := (some 39)) (v := ?_) (a' := ?_) #[true, true, true, false, false, false, false, false, false, false, false, false, false, false, false, false, false, false, false] rfl rfl (any_of HT_.out (by kernel_rfl)) (fun _ _ _ h => h) (Or.inl ⟨by rfl, ?_⟩) ?_ ?_
  rotate_left
  · intro w'
    go_simp
    with_reducible rfl
  rotate_left
  · simp only [Act.put, List.setIfInBounds_toArray, List.set_cons_zero, List.set_cons_succ, i64_w, i32_w]
    rfl
  refine pure_ (i := 3) (N := (some 40)) (v := ?_) (a' := ?_) #[true, true, true, true, false, false, false, false, false, false, false, false, false, false, false, false, false, false, false] rfl rfl (any_of HT_.out (by kernel_rfl)) (fun _ _ _ h => h) (Or.inl ⟨by rfl, ?_⟩) ?_ ?_
  rotate_left
  · intro w'
    go_simp
    with_reducible rfl
  rotate_left
  · simp only [Act.put, List.setIfInBounds_toArray, List.set_cons_zero, List.set_cons_succ, i64_w, i32_w]
    rfl
  refine take_ (i := 4) (N := (some 41)) (v := ?_) (a' := ?_) #[true, true, true, true, true, false, false, false, false, false, false, false, false, false, false, false, false, false, false] rfl rfl (take_ofW HT_.out HW_.out (by kernel_rfl)) (fun _ _ _ h => h) (Or.inl ⟨by rfl, ?_⟩) hHeld ?_ ?_
  rotate_left
  · rintro w' ⟨s0, s1, s2⟩
    go_simp
    with_reducible rfl
  rotate_left
  · simp only [Act.put, List.setIfInBounds_toArray, List.set_cons_zero, List.set_cons_succ, i64_w, i32_w]
    rfl
  refine pure_ (i := 5) (N := (some 42)) (v := ?_) (a' := ?_) #[true, true, true, true, true, true, false, false, false, false, false, false, false, false, false, false, false, false, false] rfl rfl (any_of HT_.out (by kernel_rfl)) (fun _ _ _ h => h) (Or.inl ⟨by rfl, ?_⟩) ?_ ?_
  rotate_left
  · intro w'
    go_simp
    with_reducible rfl
  rotate_left
  · simp only [Act.put, List.setIfInBounds_toArray, List.set_cons_zero, List.set_cons_succ, i64_w, i32_w]
    rfl
  refine pure_ (i := 6) (N := (some 43)) (v := ?_) (a' := ?_) #[true, true, true, true, true, true, true, false, false, false, false, false, false, false, false, false, false, false, false] rfl rfl (any_of HT_.out (by kernel_rfl)) (fun _ _ _ h => h) (Or.inl ⟨by rfl, ?_⟩) ?_ ?_
  rotate_left
  · intro w'
    go_simp
    with_reducible rfl
  rotate_left
  · simp only [Act.put, List.setIfInBounds_toArray, List.set_cons_zero, List.set_cons_succ, i64_w, i32_w]
    rfl
  refine pure_ (i := 7) (N := (some 44)) (v := ?_) (a' := ?_) #[true, true, true, true, true, true, true, true, false, false, false, false, false, false, false, false, false, false, false] rfl rfl (any_of HT_.out (by kernel_rfl)) (fun _ _ _ h => h) (Or.inl ⟨by rfl, ?_⟩) ?_ ?_
  rotate_left
  · intro w'
    go_simp
    with_reducible rfl
  rotate_left
  · simp only [Act.put, List.setIfInBounds_toArray, List.set_cons_zero, List.set_cons_succ, i64_w, i32_w]
    rfl
  refine take_ (i := 8) (N := (some 45)) (v := ?_) (a' := ?_) #[true, true, true, true, true, true, true, true, true, false, false, false, false, false, false, false, false, false, false] rfl rfl (take_ofW HT_.out HW_.out (by kernel_rfl)) (fun _ _ _ h => h) (Or.inl ⟨by rfl, ?_⟩) hHeld ?_ ?_
  rotate_left
  · rintro w' ⟨s0, s1, s2⟩
    go_simp
    with_reducible rfl
  rotate_left
  · simp only [Act.put, List.setIfInBounds_toArray, List.set_cons_zero, List.set_cons_succ, i64_w, i32_w]
    rfl
  refine pure_ (i := 9) (N := (some 46)) (v := ?_) (a' := ?_) #[true, true, true, true, true, true, true, true, true, true, false, false, false, false, false, false, false, false, false] rfl rfl (any_of HT_.out (by kernel_rfl)) (fun _ _ _ h => h) (Or.inl ⟨by rfl, ?_⟩) ?_ ?_
  rotate_left
  · intro w'
    go_simp
    with_reducible rfl
  rotate_left
  · simp only [Act.put, List.setIfInBounds_toArray, List.set_cons_zero, List.set_cons_succ, i64_w, i32_w]
    rfl
  refine take_ (i := 10) (N := (some 47)) (v := ?_) (a' := ?_) #[true, true, true, true, true, true, true, true, true, true, true, false, false, false, false, false, false, false, false] rfl rfl (take_ofW HT_.out HW_.out (by kernel_rfl)) (fun _ _ _ h => h) (Or.inl ⟨by rfl, ?_⟩) hHeld ?_ ?_
  rotate_left
  · rintro w' ⟨s0, s1, s2⟩
    go_simp
    with_reducible rfl
  rotate_left
  · simp only [Act.put, List.setIfInBounds_toArray, List.set_cons_zero, List.set_cons_succ, i64_w, i32_w]
    rfl
  refine pure_ (i := 11) (N := (some 48)) (v := ?_) (a' := ?_) #[true, true, true, true, true, true, true, true, true, true, true, true, false, false, false, false, false, false, false] rfl rfl (any_of HT_.out (by kernel_rfl)) (fun _ _ _ h => h) (Or.inl ⟨by rfl, ?_⟩) ?_ ?_
  rotate_left
  · intro w'
    go_simp
    with_reducible rfl
  rotate_left
  · simp only [Act.put, List.setIfInBounds_toArray, List.set_cons_zero, List.set_cons_succ, i64_w, i32_w]
    rfl
  refine pure_ (i := 12) (N := (some 49)) (v := ?_) (a' := ?_) #[true, true, true, true, true, true, true, true, true, true, true, true, true, false, false, false, false, false, false] rfl rfl (any_of HT_.out (by kernel_rfl)) (fun _ _ _ h => h) (Or.inl ⟨by rfl, ?_⟩) ?_ ?_
  rotate_left
  · intro w'
    go_simp
    with_reducible rfl
  rotate_left
  · simp only [Act.put, List.setIfInBounds_toArray, List.set_cons_zero, List.set_cons_succ, i64_w, i32_w]
    rfl
  refine pure_ (i := 13) (N := (some 50)) (v := ?_) (a' := ?_) #[true, true, true, true, true, true, true, true, true, true, true, true, true, true, false, false, false, false, false] rfl rfl (any_of HT_.out (by kernel_rfl)) (fun _ _ _ h => h) (Or.inl ⟨by rfl, ?_⟩) ?_ ?_
  rotate_left
  · intro w'
    go_simp
    with_reducible rfl
  rotate_left
  · simp only [Act.put, List.setIfInBounds_toArray, List.set_cons_zero, List.set_cons_succ, i64_w, i32_w]
    rfl
  refine take_ (i := 14) (N := (some 51)) (v := ?_) (a' := ?_) #[true, true, true, true, true, true, true, true, true, true, true, true, true, true, true, false, false, false, false] rfl rfl (take_ofW HT_.out HW_.out (by kernel_rfl)) (fun _ _ _ h => h) (Or.inl ⟨by rfl, ?_⟩) hHeld ?_ ?_
  rotate_left
  · rintro w' ⟨s0, s1, s2⟩
    go_simp
    with_reducible rfl
  rotate_left
  · simp only [Act.put, List.setIfInBounds_toArray, List.set_cons_zero, List.set_cons_succ, i64_w, i32_w]
    rfl
  refine pure_ (i := 15) (N := (some 52)) (v := ?_) (a' := ?_) #[true, true, true, true, true, true, true, true, true, true, true, true, true, true, true, true, false, false, false] rfl rfl (any_of HT_.out (by kernel_rfl)) (fun _ _ _ h => h) (Or.inl ⟨by rfl, ?_⟩) ?_ ?_
  rotate_left
  · intro w'
    go_simp
    with_reducible rfl
  rotate_left
  · simp only [Act.put, List.setIfInBounds_toArray, List.set_cons_zero, List.set_cons_succ, i64_w, i32_w]
    rfl
  refine pure_ (i := 16) (N := (some 53)) (v := ?_) (a' := ?_) #[true, true, true, true, true, true, true, true, true, true, true, true, true, true, true, true, true, false, false] rfl rfl (any_of HT_.out (by kernel_rfl)) (fun _ _ _ h => h) (Or.inl ⟨by rfl, ?_⟩) ?_ ?_
  rotate_left
  · intro w'
    go_simp
    with_reducible rfl
  rotate_left
  · simp only [Act.put, List.setIfInBounds_toArray, List.set_cons_zero, List.set_cons_succ, i64_w, i32_w]
    rfl
  refine last_ (i := 17) (N := (some 54)) #[true, true, true, true, true, true, true, true, true, true, true, true, true, true, true, true, true, true, false] rfl rfl (one_of HT_.out (by kernel_rfl)) (by decide) (fun K hK => ?_)
  refine goes_ Tryd.func121 (by kernel_rfl) rfl #[.pointer (some ⟨br, 0, none⟩), .int .u64 e2, .slice A4 seed.length c4, .slice A6 H_.length (cO - 1), .func (.func vis) #[] #[.pointer (some ⟨s, 0, none⟩)]] (by rfl) rfl rfl (by (try simp only [List.map_toArray, List.map_cons, List.map_nil]); first | done | rfl) ?_
  refine (compact_Range_appendImpl.calls k h0 h1 h2 h3 h4 h5 bf br s lo low hi0 hi x0 ones b e e2 vis hV 0 c0 c4 (cO - 1) AT A4 A6 T H_ seed vs L T' i1 i2 L' w3 HG1.out hmp hl hh hhi he hx hon ho1 ho2 hT1 hH1 hLB hap HF.out HR.out HT.out (by have := HCO.out; have := HHN.out; omega) HCF.out HL4.out HF4.out HS.out hbs hfs (Nat.le_trans hlo HB.out.size)).mono ?_
  rintro e11 w11 ⟨A11, c11, vs11, rfl, p1, p2, p3, p4, p5, p6, p7⟩
  refine ⟨_, rfl, ?_⟩
  have wK : KeptB w w11 (fun k => k = br ∨ k = s ∨ some k = vs.ownBlock ∨ some k = (Value.slice AT T.length c0).ownBlock) := (KeptB.of_below HB.out _).then_ p5 (fun k hk => Or.inl hk)
  clear HY HX4 HCF HF4 HT HS HF
  refine hK.out _ _ ?_
  clear hK K
  refine norm_ (a' := ?_) ?_ ?_
  rotate_left
  · show Act.put _ (some 54) _ = _
    simp only [Act.put, List.setIfInBounds_toArray, List.set_cons_zero, List.set_cons_succ, i64_w, i32_w]
    rfl
  refine pure_ (i := 18) (N := (some 6)) (v := ?_) (a' := ?_) #[true, true, true, true, true, true, true, true, true, true, true, true, true, true, true, true, true, true, true] rfl rfl (any_of HT_.out (by kernel_rfl)) (fun _ _ _ h => h) (Or.inl ⟨by rfl, ?_⟩) ?_ ?_
  rotate_left
  · intro w'
    go_simp
    with_reducible rfl
  rotate_left
  · simp only [Act.put, List.setIfInBounds_toArray, List.set_cons_zero, List.set_cons_succ, i64_w, i32_w]
    rfl
  refine done_ (done_of HT_.out (by kernel_rfl)) ?_
  go_wp2
  go_ret
  exact ⟨A11, c11, vs11, rfl, p1, p2, p3, p4, wK⟩
def impl_AppendRange_1.T1 : Bool × List (List Nat × List Nat) := (true, [([], []), ([], []), ([1], [1]), ([], []), ([], []), ([3, 4, 2], [3, 4]), ([2, 5], [2, 5]), ([6], [6]), ([0, 7, 5], [0, 7]), ([8, 8, 0, 1, 2, 3, 4, 5, 6, 7, 8], [8])])
def impl_AppendRange_1.B1 : List Nat := [0, 0, 2, 0, 0, 30, 62, 126, 255, 511]
theorem impl_AppendRange_1.tab1 : rtab .any (opsOf Tryd.f99 1) = impl_AppendRange_1.T1 := by kernel_rfl
theorem impl_AppendRange_1.bits1 : waitsOk impl_AppendRange_1.T1.2 impl_AppendRange_1.B1 = true := by kernel_rfl
set_option maxHeartbeats 8000000 in
set_option maxRecDepth 100000 in
theorem impl_AppendRange_1.calls (lv ix : Int) (A : Option Addr) (c : Nat) (l : List Int) (s : Nat) (P : Nat → Prop) (v : Value) (L : List S88) (w : World) (hP : ∀ k, w.heap.size ≤ k → P k) (hS : Seen w s P v L) (hC : Kd.C (Kd.int .u8) w A l.length l) (hc : l.length ≤ c) (hL : L.length < 1000000) (hll : l.length < 140737488355328) :
    Calls Tryd.prog 99 #[.agg #[.int .u64 lv, .int .u64 ix], .slice A l.length c, .pointer (some ⟨s, 0, none⟩)] w fun e w' => ∃ v0 v' : Value, e = .returned v0 ∧ Seen w' s P v' (L ++ [⟨⟨lv, ix⟩, l⟩]) ∧ KeptB w w' (shows s v) ∧ (v'.ownBlock = v.ownBlock ∨ ∃ b, v'.ownBlock = some b ∧ w.heap.size ≤ b) := by
  have hu43 := Tryd.underlying43
  have hu42 := Tryd.underlying42
  have hu107 := Tryd.underlying107
  have HP := Aside0.mk hP
  have HS := Aside0.mk hS
  have HC := Aside0.mk hC
  clear hS hC hP
  go_enter Tryd.func99, Tryd.ntmps99
  go_wp2_with (first | ((with_reducible refine gate_dst (N := 3) rfl ?_); refine box_event ?hg (N := 3) ?hd (cs := #[.int .u64 lv, .int .u64 ix]) (t := 107) ?hr ?_; (case hd => rfl); (case hg => rfl); (case hr => first | (go_simp; done) | (go_simp; rfl)); intro gb hg w4 hbox hb; (have BK := Aside0.mk hbox); (have HB := Aside0.mk hb); (have GB := Aside0.mk hg); clear hbox hb hg))
  have hgb : gb ≠ s := by
    have h1 := HS.out.lt
    have h2 : gb = w.heap.size := GB.out
    omega
  have HBK := Aside0.mk (blk_drew BK.out)
  have HB1 := Aside0.mk (below_drew1 HB.out)
  clear BK HB
  have HB := HB1
  clear HB1
  refine start_ (n := 10) (S := fun w' => w'.cell? ⟨s, 0, none⟩ = some v ∧ w'.cell? ⟨gb, 0, none⟩ = some (.int .u64 lv) ∧ w'.cell? ⟨gb, 1, none⟩ = some (.int .u64 ix)) (ds := [9]) #[false, false, false, false, false, false, false, false, false, false] (by kernel_rfl) rfl rfl (⟨(blk_cell (HS.out.below HB.out).cell 0).trans rfl, (blk_cell HBK.out 0).trans rfl, (blk_cell HBK.out 1).trans rfl⟩) (fun hHeld => ?_)
  refine with_tabW impl_AppendRange_1.tab1 impl_AppendRange_1.bits1 (fun HT_ HW_ => ?_)
  generalize w4.drew = w5 at HB HBK hHeld ⊢
  refine take_ (i := 0) (N := (some 5)) (v := ?_) (a' := ?_) #[true, false, false, false, false, false, false, false, false, false] rfl rfl (take_ofW HT_.out HW_.out (by kernel_rfl)) (fun _ _ _ h => h) (Or.inl ⟨by rfl, ?_⟩) hHeld ?_ ?_
  rotate_left
  · rintro w' ⟨s0, s1, s2⟩
    go_simp
    with_reducible rfl
  rotate_left
  · simp only [Act.put, List.setIfInBounds_toArray, List.set_cons_zero, List.set_cons_succ, i64_w, i32_w]
    rfl
  refine take_ (i := 1) (N := (some 6)) (v := ?_) (a' := ?_) #[true, true, false, false, false, false, false, false, false, false] rfl rfl (take_ofW HT_.out HW_.out (by kernel_rfl)) (fun _ _ _ h => h) (Or.inl ⟨by rfl, ?_⟩) hHeld ?_ ?_
  rotate_left
  · rintro w' ⟨s0, s1, s2⟩
    go_simp
    with_reducible rfl
  rotate_left
  · simp only [Act.put, List.setIfInBounds_toArray, List.set_cons_zero, List.set_cons_succ, i64_w, i32_w]
    rfl
  refine pure_ (i := 4) (N := (some 9)) (v := ?_) (a' := ?_) #[true, true, false, false, true, false, false, false, false, false] rfl rfl (any_of HT_.out (by kernel_rfl)) (fun _ _ _ h => h) (Or.inl ⟨by rfl, ?_⟩) ?_ ?_
  rotate_left
  · intro w'
    go_simp
    with_reducible rfl
  rotate_left
  · simp only [Act.put, List.setIfInBounds_toArray, List.set_cons_zero, List.set_cons_succ, i64_w, i32_w]
    rfl
  refine two_ (i := 2) (j := 3) (Ni := (some 7)) (Nj := (some 8)) #[true, true, true, false, true, false, false, false, false, false] #[true, true, false, true, true, false, false, false, false, false] rfl rfl rfl rfl (two_of HT_.out (by kernel_rfl)) (by decide) (by decide) (fun K hK => ?_) (fun K hK => ?_)
  · skip
    refine goes_ Tryd.func73 (by kernel_rfl) rfl #[.agg #[.int .u64 lv, .int .u64 ix]] (by rfl) rfl rfl (by (try simp only [List.map_toArray, List.map_cons, List.map_nil]); first | done | rfl) ?_
    with_reducible refine (impl_fromNode.calls lv ix lv ix _ rfl).mono ?_
    rintro e6 w6 ⟨rfl, hb6⟩
    refine ⟨_, rfl, ?_⟩
    have HB1 := Aside0.mk (below_step HB.out hb6)
    have HBK1 := Aside0.mk (blk_below HBK.out hb6)
    clear hb6 HB HBK
    have HB := HB1
    have HBK := HBK1
    clear HB1 HBK1
    refine hK.out _ _ ⟨(blk_cell (HS.out.below HB.out).cell 0).trans rfl, (blk_cell HBK.out 0).trans rfl, (blk_cell HBK.out 1).trans rfl⟩ (fun hHeld => ?_)
    clear hK K
    refine norm_ (a' := ?_) ?_ ?_
    rotate_left
    · show Act.put _ (some 7) _ = _
      simp only [Act.put, List.setIfInBounds_toArray, List.set_cons_zero, List.set_cons_succ, i64_w, i32_w]
      rfl
    refine one_ (i := 3) (N := (some 8)) #[true, true, true, true, true, false, false, false, false, false] rfl rfl (one_of HT_.out (by kernel_rfl)) (by decide) (fun K hK => ?_)
    refine Kd.R_lit_step (w0 := w) (Kd.int .u8) w.heap.size 5 ?hg (N := 8) ?hd (xs := ([] : List Int)) (inner := []) (ok := fun k => w.heap.size ≤ k) (okp := fun _ => False) ?hr ?hp (fun _ hk => hk.elim) ?hf HB.out HB.out.size (by simp) ?_
    case hd => rfl
    case hg => rfl
    case hr => first | (go_simp; done) | (go_simp; rfl)
    case hp => exact (Reps.none _ _)
    case hf => exact HB.out.size
    intro v8 w8 ho8 hb8 hg8 hnew8
    have HB2 := Aside0.mk hb8
    have HBK2 := Aside0.mk (blk_grown HBK.out hg8 (by simp))
    have HN8 := Aside0.mk (show some gb ≠ v8.ownBlock by obtain ⟨b, e, hle⟩ := hnew8; rw [e]; intro h; injection h with h; have := blk_lt HBK.out; omega)
    have HO8 := Aside0.mk ho8
    clear ho8 hb8 hg8 hnew8 HB HBK
    have HB := HB2
    have HBK := HBK2
    clear HB2 HBK2
    refine hK.out _ _ ⟨(blk_cell (HS.out.below HB.out).cell 0).trans rfl, (blk_cell HBK.out 0).trans rfl, (blk_cell HBK.out 1).trans rfl⟩ (fun hHeld => ?_)
    clear hK K
    refine norm_ (a' := ?_) ?_ ?_
    rotate_left
    · show Act.put _ (some 8) _ = _
      simp only [Act.put, List.setIfInBounds_toArray, List.set_cons_zero, List.set_cons_succ, i64_w, i32_w]
      rfl
    refine one_ (i := 5) (N := (some 10)) #[true, true, true, true, true, true, false, false, false, false] rfl rfl (one_of HT_.out (by kernel_rfl)) (by decide) (fun K hK => ?_)
    refine Kd.R_append_rows_step (Kd.int .u8) (w0 := w) w.heap.size (by rfl) (.tmp 8) (.tmp 9) 42 5 (.int .u8 0) 1 rfl Tryd.underlying42 info5 rfl (by decide) (by omega) v8 [] l _ _ _ (fun k => w.heap.size ≤ k) (fun _ => False) rfl rfl HO8.out (Kd.C_below HC.out HB.out) (fun _ _ h => h) (fun _ h => h.elim) (fun k hk => Nat.le_trans HB.out.size hk) HB.out HB.out.size (by simp; omega) ?_
    intro v10 w10 ho hb hg hat
    rw [List.nil_append] at ho
    obtain ⟨A10, c10, rfl⟩ := Kd.R_slice ho
    have HBK1 := Aside0.mk (blk_grown HBK.out hg HN8.out)
    have HO10 := Aside0.mk ho
    have HB1 := Aside0.mk hb
    clear ho hb hg hat HBK HB HO8 HN8
    have HBK := HBK1
    have HB := HB1
    clear HBK1 HB1
    refine hK.out _ _ ⟨(blk_cell (HS.out.below HB.out).cell 0).trans rfl, (blk_cell HBK.out 0).trans rfl, (blk_cell HBK.out 1).trans rfl⟩ (fun hHeld => ?_)
    clear hK K
    refine norm_ (a' := ?_) ?_ ?_
    rotate_left
    · show Act.put _ (some 10) _ = _
      simp only [Act.put, List.setIfInBounds_toArray, List.set_cons_zero, List.set_cons_succ, i64_w, i32_w]
      rfl
    refine pure_ (i := 6) (N := (some 11)) (v := ?_) (a' := ?_) #[true, true, true, true, true, true, true, false, false, false] rfl rfl (any_of HT_.out (by kernel_rfl)) (fun _ _ _ h => h) (Or.inl ⟨by rfl, ?_⟩) ?_ ?_
    rotate_left
    · intro w'
      go_simp
      with_reducible rfl
    rotate_left
    · simp only [Act.put, List.setIfInBounds_toArray, List.set_cons_zero, List.set_cons_succ, i64_w, i32_w]
      rfl
    refine one_ (i := 7) (N := (some 12)) #[true, true, true, true, true, true, true, true, false, false] rfl rfl (one_of HT_.out (by kernel_rfl)) (by decide) (fun K hK => ?_)
    refine value_ (w1 := w10.alloc (.cells #[.int .u64 lv, .int .u64 ix, .slice A10 l.length c10] 88)) (v := .slice (some ⟨w10.heap.size, 0, none⟩) 1 1) (by rfl) rfl (by first | (go_simp; done) | (go_simp; rfl)) ?_
    refine hK.out _ _ ⟨(blk_cell (blk_alloc (HS.out.below HB.out).cell _) 0).trans rfl, (blk_cell (blk_alloc HBK.out _) 0).trans rfl, (blk_cell (blk_alloc HBK.out _) 1).trans rfl⟩ (fun hHeld => ?_)
    clear hK K
    refine norm_ (a' := ?_) ?_ ?_
    rotate_left
    · show Act.put _ (some 12) _ = _
      simp only [Act.put, List.setIfInBounds_toArray, List.set_cons_zero, List.set_cons_succ, i64_w, i32_w]
      rfl
    refine one_ (i := 8) (N := (some 13)) #[true, true, true, true, true, true, true, true, true, false] rfl rfl (one_of HT_.out (by kernel_rfl)) (by decide) (fun K hK => ?_)
    have hlv : ∀ k, v.ownBlock = some k → k < w.heap.size := Kd.S_lt HS.out.row
    refine Kd.S_append_step k88 (w0 := w10) (s + 1) (by rfl) (.tmp 5) (.tmp 12) 43 88 (.agg #[.int .u64 0, .int .u64 0, .slice none 0 0]) 40 rfl Tryd.underlying43 info88 rfl (by decide) (by omega) v L ⟨⟨lv, ix⟩, l⟩ [.int .u64 lv, .int .u64 ix, .slice A10 l.length c10] (fun k => s < k ∧ P k) (fun k => w.heap.size ≤ k) rfl rfl ?aP ?aK ?aF (Kd.S_mono (Kd.S_below (Kd.S_bound HS.out.row) HB.out) (fun k hk => ⟨hk.1, Nat.not_le.mpr hk.2.2.1⟩)) (Below.refl _ _) ?aS (by omega) ?_
    case aP => exact k88_mkM _ _ _ ⟨⟨lv, ix⟩, l⟩ (Kd.R_lower HO10.out HS.out.lt)
    case aK => exact fun k hk => ⟨⟨Nat.lt_of_lt_of_le HS.out.lt hk, HP.out k hk⟩, fun he => by have := hlv k he.symm; omega⟩
    case aF => exact fun k hk => ⟨Nat.lt_of_lt_of_le HS.out.lt (Nat.le_trans HB.out.size hk), HP.out k (Nat.le_trans HB.out.size hk)⟩
    case aS => exact Nat.lt_of_lt_of_le HS.out.lt HB.out.size
    intro v13 w13 ho hb hg hat
    obtain ⟨A13, c13, e13⟩ := Kd.S_slice ho
    rw [List.length_append, List.length_singleton] at e13
    subst e13
    have hsv : ∀ k, v.ownBlock = some k → s + 1 ≤ k := Kd.S_base HS.out.row
    have HC13 := Aside0.mk (blk_grown (HS.out.below HB.out).cell hg (by intro he; have := hsv s he.symm; omega))
    have HBK1 := Aside0.mk (blk_grown HBK.out hg (by intro he; have := hlv gb he.symm; have := GB.out; omega))
    have HR13 := Aside0.mk ho
    have HK13 := Aside0.mk (KeptB.of_grown hg (KeptB.of_below HB.out (shows s v)) (fun k hk => Or.inl (Or.inr hk.symm)))
    have HA13 := Aside0.mk (show (Value.slice A13 (L.length + 1) c13).ownBlock = v.ownBlock ∨ ∃ b, (Value.slice A13 (L.length + 1) c13).ownBlock = some b ∧ w.heap.size ≤ b by
      rcases hat with hat | ⟨b, e, hle⟩
      · exact Or.inl hat
      · exact Or.inr ⟨b, e, Nat.le_trans HB.out.size hle⟩)
    clear ho hb hg hat hsv hlv HBK HB HO10
    refine hK.out _ _ ⟨(blk_cell HC13.out 0).trans rfl, (blk_cell HBK1.out 0).trans rfl, (blk_cell HBK1.out 1).trans rfl⟩ (fun hHeld => ?_)
    clear hK K
    refine norm_ (a' := ?_) ?_ ?_
    rotate_left
    · show Act.put _ (some 13) _ = _
      simp only [Act.put, List.setIfInBounds_toArray, List.set_cons_zero, List.set_cons_succ, i64_w, i32_w]
      rfl
    have hcx := (blk_cell HC13.out 0).trans rfl
    have hfx := blk_frozen HC13.out 0
    refine last_ (i := 9) (N := none) #[true, true, true, true, true, true, true, true, true, true] rfl rfl (one_of HT_.out (by kernel_rfl)) (by decide) (fun K hK => ?_)
    refine skip_ (w1 := ?_) (by rfl) rfl ?_ ?_
    rotate_left
    · go_simp
      rfl
    refine hK.out _ _ ?_
    clear hK K
    refine done_ (done_of HT_.out (by kernel_rfl)) ?_
    go_wp2
    go_end0
    have hR2 := Kd.S_far (p := ⟨s, 0, none⟩) HR13.out (fun k hk => Nat.ne_of_gt hk.1) (.slice A13 (L.length + 1) c13)
    exact ⟨_, _, rfl, ⟨(blk_set HC13.out 0 _).trans rfl, hR2⟩, HK13.out.setCell (Or.inl (Or.inl rfl)) _, HA13.out⟩
  · skip
    refine Kd.R_lit_step (w0 := w) (Kd.int .u8) w.heap.size 5 ?hg (N := 8) ?hd (xs := ([] : List Int)) (inner := []) (ok := fun k => w.heap.size ≤ k) (okp := fun _ => False) ?hr ?hp (fun _ hk => hk.elim) ?hf HB.out HB.out.size (by simp) ?_
    case hd => rfl
    case hg => rfl
    case hr => first | (go_simp; done) | (go_simp; rfl)
    case hp => exact (Reps.none _ _)
    case hf => exact HB.out.size
    intro v8 w8 ho8 hb8 hg8 hnew8
    have HB2 := Aside0.mk hb8
    have HBK2 := Aside0.mk (blk_grown HBK.out hg8 (by simp))
    have HN8 := Aside0.mk (show some gb ≠ v8.ownBlock by obtain ⟨b, e, hle⟩ := hnew8; rw [e]; intro h; injection h with h; have := blk_lt HBK.out; omega)
    have HO8 := Aside0.mk ho8
    clear ho8 hb8 hg8 hnew8 HB HBK
    have HB := HB2
    have HBK := HBK2
    clear HB2 HBK2
    refine hK.out _ _ ⟨(blk_cell (HS.out.below HB.out).cell 0).trans rfl, (blk_cell HBK.out 0).trans rfl, (blk_cell HBK.out 1).trans rfl⟩ (fun hHeld => ?_)
    clear hK K
    refine norm_ (a' := ?_) ?_ ?_
    rotate_left
    · show Act.put _ (some 8) _ = _
      simp only [Act.put, List.setIfInBounds_toArray, List.set_cons_zero, List.set_cons_succ, i64_w, i32_w]
      rfl
    refine one_ (i := 2) (N := (some 7)) #[true, true, true, true, true, false, false, false, false, false] rfl rfl (one_of HT_.out (by kernel_rfl)) (by decide) (fun K hK => ?_)
    refine goes_ Tryd.func73 (by kernel_rfl) rfl #[.agg #[.int .u64 lv, .int .u64 ix]] (by rfl) rfl rfl (by (try simp only [List.map_toArray, List.map_cons, List.map_nil]); first | done | rfl) ?_
    with_reducible refine (impl_fromNode.calls lv ix lv ix _ rfl).mono ?_
    rintro e6 w6 ⟨rfl, hb6⟩
    refine ⟨_, rfl, ?_⟩
    have HB1 := Aside0.mk (below_step HB.out hb6)
    have HBK1 := Aside0.mk (blk_below HBK.out hb6)
    have HO81 := Aside0.mk (Kd.R_below HO8.out hb6)
    clear hb6 HB HBK HO8
    have HB := HB1
    have HBK := HBK1
    have HO8 := HO81
    clear HB1 HBK1 HO81
    refine hK.out _ _ ⟨(blk_cell (HS.out.below HB.out).cell 0).trans rfl, (blk_cell HBK.out 0).trans rfl, (blk_cell HBK.out 1).trans rfl⟩ (fun hHeld => ?_)
    clear hK K
    refine norm_ (a' := ?_) ?_ ?_
    rotate_left
    · show Act.put _ (some 7) _ = _
      simp only [Act.put, List.setIfInBounds_toArray, List.set_cons_zero, List.set_cons_succ, i64_w, i32_w]
      rfl
    refine one_ (i := 5) (N := (some 10)) #[true, true, true, true, true, true, false, false, false, false] rfl rfl (one_of HT_.out (by kernel_rfl)) (by decide) (fun K hK => ?_)
    refine Kd.R_append_rows_step (Kd.int .u8) (w0 := w) w.heap.size (by rfl) (.tmp 8) (.tmp 9) 42 5 (.int .u8 0) 1 rfl Tryd.underlying42 info5 rfl (by decide) (by omega) v8 [] l _ _ _ (fun k => w.heap.size ≤ k) (fun _ => False) rfl rfl HO8.out (Kd.C_below HC.out HB.out) (fun _ _ h => h) (fun _ h => h.elim) (fun k hk => Nat.le_trans HB.out.size hk) HB.out HB.out.size (by simp; omega) ?_
    intro v10 w10 ho hb hg hat
    rw [List.nil_append] at ho
    obtain ⟨A10, c10, rfl⟩ := Kd.R_slice ho
    have HBK1 := Aside0.mk (blk_grown HBK.out hg HN8.out)
    have HO10 := Aside0.mk ho
    have HB1 := Aside0.mk hb
    clear ho hb hg hat HBK HB HO8 HN8
    have HBK := HBK1
    have HB := HB1
    clear HBK1 HB1
    refine hK.out _ _ ⟨(blk_cell (HS.out.below HB.out).cell 0).trans rfl, (blk_cell HBK.out 0).trans rfl, (blk_cell HBK.out 1).trans rfl⟩ (fun hHeld => ?_)
    clear hK K
    refine norm_ (a' := ?_) ?_ ?_
    rotate_left
    · show Act.put _ (some 10) _ = _
      simp only [Act.put, List.setIfInBounds_toArray, List.set_cons_zero, List.set_cons_succ, i64_w, i32_w]
      rfl
    refine pure_ (i := 6) (N := (some 11)) (v := ?_) (a' := ?_) #[true, true, true, true, true, true, true, false, false, false] rfl rfl (any_of HT_.out (by kernel_rfl)) (fun _ _ _ h => h) (Or.inl ⟨by rfl, ?_⟩) ?_ ?_
    rotate_left
    · intro w'
      go_simp
      with_reducible rfl
    rotate_left
    · simp only [Act.put, List.setIfInBounds_toArray, List.set_cons_zero, List.set_cons_succ, i64_w, i32_w]
      rfl
    refine one_ (i := 7) (N := (some 12)) #[true, true, true, true, true, true, true, true, false, false] rfl rfl (one_of HT_.out (by kernel_rfl)) (by decide) (fun K hK => ?_)
    refine value_ (w1 := w10.alloc (.cells #[.int .u64 lv, .int .u64 ix, .slice A10 l.length c10] 88)) (v := .slice (some ⟨w10.heap.size, 0, none⟩) 1 1) (by rfl) rfl (by first | (go_simp; done) | (go_simp; rfl)) ?_
    refine hK.out _ _ ⟨(blk_cell (blk_alloc (HS.out.below HB.out).cell _) 0).trans rfl, (blk_cell (blk_alloc HBK.out _) 0).trans rfl, (blk_cell (blk_alloc HBK.out _) 1).trans rfl⟩ (fun hHeld => ?_)
    clear hK K
    refine norm_ (a' := ?_) ?_ ?_
    rotate_left
    · show Act.put _ (some 12) _ = _
      simp only [Act.put, List.setIfInBounds_toArray, List.set_cons_zero, List.set_cons_succ, i64_w, i32_w]
      rfl
    refine one_ (i := 8) (N := (some 13)) #[true, true, true, true, true, true, true, true, true, false] rfl rfl (one_of HT_.out (by kernel_rfl)) (by decide) (fun K hK => ?_)
    have hlv : ∀ k, v.ownBlock = some k → k < w.heap.size := Kd.S_lt HS.out.row
    refine Kd.S_append_step k88 (w0 := w10) (s + 1) (by rfl) (.tmp 5) (.tmp 12) 43 88 (.agg #[.int .u64 0, .int .u64 0, .slice none 0 0]) 40 rfl Tryd.underlying43 info88 rfl (by decide) (by omega) v L ⟨⟨lv, ix⟩, l⟩ [.int .u64 lv, .int .u64 ix, .slice A10 l.length c10] (fun k => s < k ∧ P k) (fun k => w.heap.size ≤ k) rfl rfl ?aP ?aK ?aF (Kd.S_mono (Kd.S_below (Kd.S_bound HS.out.row) HB.out) (fun k hk => ⟨hk.1, Nat.not_le.mpr hk.2.2.1⟩)) (Below.refl _ _) ?aS (by omega) ?_
    case aP => exact k88_mkM _ _ _ ⟨⟨lv, ix⟩, l⟩ (Kd.R_lower HO10.out HS.out.lt)
    case aK => exact fun k hk => ⟨⟨Nat.lt_of_lt_of_le HS.out.lt hk, HP.out k hk⟩, fun he => by have := hlv k he.symm; omega⟩
    case aF => exact fun k hk => ⟨Nat.lt_of_lt_of_le HS.out.lt (Nat.le_trans HB.out.size hk), HP.out k (Nat.le_trans HB.out.size hk)⟩
    case aS => exact Nat.lt_of_lt_of_le HS.out.lt HB.out.size
    intro v13 w13 ho hb hg hat
    obtain ⟨A13, c13, e13⟩ := Kd.S_slice ho
    rw [List.length_append, List.length_singleton] at e13
    subst e13
    have hsv : ∀ k, v.ownBlock = some k → s + 1 ≤ k := Kd.S_base HS.out.row
    have HC13 := Aside0.mk (blk_grown (HS.out.below HB.out).cell hg (by intro he; have := hsv s he.symm; omega))
    have HBK1 := Aside0.mk (blk_grown HBK.out hg (by intro he; have := hlv gb he.symm; have := GB.out; omega))
    have HR13 := Aside0.mk ho
    have HK13 := Aside0.mk (KeptB.of_grown hg (KeptB.of_below HB.out (shows s v)) (fun k hk => Or.inl (Or.inr hk.symm)))
    have HA13 := Aside0.mk (show (Value.slice A13 (L.length + 1) c13).ownBlock = v.ownBlock ∨ ∃ b, (Value.slice A13 (L.length + 1) c13).ownBlock = some b ∧ w.heap.size ≤ b by
      rcases hat with hat | ⟨b, e, hle⟩
      · exact Or.inl hat
      · exact Or.inr ⟨b, e, Nat.le_trans HB.out.size hle⟩)
    clear ho hb hg hat hsv hlv HBK HB HO10
    refine hK.out _ _ ⟨(blk_cell HC13.out 0).trans rfl, (blk_cell HBK1.out 0).trans rfl, (blk_cell HBK1.out 1).trans rfl⟩ (fun hHeld => ?_)
    clear hK K
    refine norm_ (a' := ?_) ?_ ?_
    rotate_left
    · show Act.put _ (some 13) _ = _
      simp only [Act.put, List.setIfInBounds_toArray, List.set_cons_zero, List.set_cons_succ, i64_w, i32_w]
      rfl
    have hcx := (blk_cell HC13.out 0).trans rfl
    have hfx := blk_frozen HC13.out 0
    refine last_ (i := 9) (N := none) #[true, true, true, true, true, true, true, true, true, true] rfl rfl (one_of HT_.out (by kernel_rfl)) (by decide) (fun K hK => ?_)
    refine skip_ (w1 := ?_) (by rfl) rfl ?_ ?_
    rotate_left
    · go_simp
      rfl
    refine hK.out _ _ ?_
    clear hK K
    refine done_ (done_of HT_.out (by kernel_rfl)) ?_
    go_wp2
    go_end0
    have hR2 := Kd.S_far (p := ⟨s, 0, none⟩) HR13.out (fun k hk => Nat.ne_of_gt hk.1) (.slice A13 (L.length + 1) c13)
    exact ⟨_, _, rfl, ⟨(blk_set HC13.out 0 _).trans rfl, hR2⟩, HK13.out.setCell (Or.inl (Or.inl rfl)) _, HA13.out⟩
theorem impl_AppendRange_1.ok : VisOk 99 := ⟨⟨_, Tryd.func99, rfl, rfl⟩, fun lv ix A c l s P v L w h1 h2 h3 h4 h5 h6 => impl_AppendRange_1.calls lv ix A c l s P v L w h1 h2 h3 h4 h5 h6⟩
end Go.Proofs.YtijldedhcjkhiaaDoor.T
