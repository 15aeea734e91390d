-- laid by xprint.py (a program of this session over the kit's print); Lean checks it
import Derived.Test.YtpeikjnkbjabpaaDoorN0
namespace Go.Proofs.YtpeikjnkbjabpaaDoor.N
open Go.RowKit Go.Proofs.YtpeikjnkbjabpaaDoorW.PrintWords Go.Proofs.YtpeikjnkbjabpaaDoorW.PrintLast Go.Proofs.YtpeikjnkbjabpaaDoorW.PrintMore
attribute [local go_sem] max2_int min2_int max_two min_two max_three min_three max_four min_four   -- for this text's walks alone
set_option linter.unusedVariables false
set_option linter.unusedSimpArgs false

/-! ### reedsolomon_errorBitfield8_set: function 46 (given) -/
/-- A field of 28 words of 64 bits in the block g. -/
def wordsV (W : Nat → Nat) : Array Value := ((List.range 28).map fun x => Value.int .u64 ((W x : Nat) : Int)).toArray
structure Wd (w : World) (g : Nat) (W : Nat → Nat) : Prop where mk :: (out : w.heap[g]? = some (.cells (wordsV W) 63 (0, 0)))
theorem wordsV_get (W : Nat → Nat) (i : Nat) (hi : i < 28) : (wordsV W)[i]? = some (.int .u64 ((W i : Nat) : Int)) := by
  unfold wordsV
  rw [List.getElem?_toArray, List.getElem?_map, List.getElem?_range hi]
  rfl
theorem Wd.cell {w : World} {g : Nat} {W : Nat → Nat} (h : Wd w g W) (i : Nat) (hi : i < 28) : w.cell? ⟨g, i, none⟩ = some (.int .u64 ((W i : Nat) : Int)) := (blk_cell h.out i).trans (wordsV_get W i hi)
theorem Wd.frozen {w : World} {g : Nat} {W : Nat → Nat} (h : Wd w g W) (i : Nat) : w.frozen? ⟨g, i, none⟩ = false := blk_frozen h.out i
theorem Wd.set {w : World} {g : Nat} {W : Nat → Nat} (h : Wd w g W) (i v : Nat) : Wd (w.setCell ⟨g, i, none⟩ (.int .u64 (v : Int))) g (fun x => if x = i then v else W x) := by
  refine ⟨blk_put h.out i _ ?_⟩
  apply Array.ext_getElem?
  intro j
  rw [Array.getElem?_setIfInBounds]
  by_cases hj : j < 28
  · rw [wordsV_get _ j hj, wordsV_get _ j hj]
    by_cases e : i = j
    · subst e
      rw [if_pos rfl, if_pos (by simp [wordsV]; exact hj), if_pos rfl]
    · rw [if_neg e, if_neg (fun h => e h.symm)]
  · have h1 : ∀ W', (wordsV W')[j]? = none := fun W' => Array.getElem?_eq_none (by simp [wordsV]; omega)
    rw [h1, h1]
    split
    · rw [if_neg (by simp [wordsV]; omega)]
    · rfl
theorem Wd.drewN {w : World} {g : Nat} {W : Nat → Nat} (h : Wd w g W) (n : Nat) : Wd (w.drewN n) g W := ⟨h.out⟩
theorem Wd.drew {w : World} {g : Nat} {W : Nat → Nat} (h : Wd w g W) : Wd w.drew g W := ⟨h.out⟩
def reedsolomon_errorBitfield8_set.T0 : Bool × List (List Nat × List Nat) := (true, [([], []), ([], []), ([1], [1]), ([2], [2]), ([0], [0]), ([4], [4]), ([5], [5]), ([6, 3], [3, 6]), ([7], [7]), ([], []), ([9], [9]), ([10], [10]), ([8, 11], [8, 11]), ([0], [0]), ([13], [13]), ([14], [14]), ([15, 3, 0, 1, 2, 3, 4, 5, 6, 7, 8, 9, 10, 11, 12], [3, 15]), ([16, 12, 0, 1, 2, 3, 4, 5, 6, 7, 8, 9, 10, 11, 12], [12, 16])])
def reedsolomon_errorBitfield8_set.B0 : List Nat := [0, 0, 2, 6, 1, 17, 49, 127, 255, 0, 512, 1536, 4095, 1, 8193, 24577, 65535, 131071]
theorem reedsolomon_errorBitfield8_set.tab0 : rtab .any (opsOf Tryd.f46 0) = reedsolomon_errorBitfield8_set.T0 := by kernel_rfl
theorem reedsolomon_errorBitfield8_set.bits0 : waitsOk reedsolomon_errorBitfield8_set.T0.2 reedsolomon_errorBitfield8_set.B0 = true := by kernel_rfl
set_option maxHeartbeats 8000000 in
set_option maxRecDepth 100000 in
theorem reedsolomon_errorBitfield8_set.core (g : Nat) (W : Nat → Nat) (i q r p v : Nat) (hq4 : q < 4) (e1 : bits .and .i64 (wrap64 ((i : Int) / 64)) 3 = (q : Int)) (e2 : bits .and .i64 (i : Int) 63 = (r : Int)) (hr : r < 64) (e3 : IntKind.u64.wrap (2 ^ r) = (p : Int)) (e4 : bits .or .u64 ((W q : Nat) : Int) (p : Int) = (v : Int)) (w0 w : World) (hW : Wd w g W) (hg : w0.heap.size ≤ g) (hB : Below w0.heap.size w0 w) :
    Calls Tryd.prog 46 #[.pointer (some ⟨g, 0, none⟩), .int .i64 (i : Int)] w fun e w' => e = .returned (.tuple #[]) ∧ Wd w' g (fun x => if x = q then v else W x) ∧ Below w0.heap.size w0 w' := by
  have hu60 := Tryd.underlying60
  have hu61 := Tryd.underlying61
  have hu62 := Tryd.underlying62
  have hu63 := Tryd.underlying63
  have HW := Aside0.mk hW
  have HB := Aside0.mk hB
  have hq4' : ((q : Int) < 4) = True := eq_true (by omega)
  have hr0 : ((r : Int) < 0) = False := eq_false (by omega)
  clear hW hB
  go_enter Tryd.func46, Tryd.ntmps46
  refine start_ (n := 18) (S := fun w' => w'.cell? ⟨g, q, none⟩ = some (.int .u64 ((W q : Nat) : Int))) (ds := [17]) #[false, false, false, false, false, false, false, false, false, false, false, false, false, false, false, false, false, false] (by kernel_rfl) rfl rfl (HW.out.drew.cell _ (by omega)) (fun hHeld => ?_)
  refine with_tabW reedsolomon_errorBitfield8_set.tab0 reedsolomon_errorBitfield8_set.bits0 (fun HT_ HW_ => ?_)
  refine pure_ (i := 0) (N := (some 4)) (v := ?_) (a' := ?_) #[true, false, false, false, false, false, false, false, false, false, false, false, false, false, false, false, false, false] rfl rfl (any_of HT_.out (by kernel_rfl)) (fun _ _ _ h => h) (Or.inl ⟨by rfl, ?_⟩) ?_ ?_
  rotate_left
  · intro w'
    go_simp
    with_reducible rfl
  rotate_left
  · simp only [Act.put, List.setIfInBounds_toArray, List.set_cons_zero, List.set_cons_succ, i64_w, i32_w]
    rfl
  refine pure_ (i := 1) (N := (some 5)) (v := ?_) (a' := ?_) #[true, true, false, false, false, false, false, false, false, false, false, false, false, false, false, false, false, false] rfl rfl (any_of HT_.out (by kernel_rfl)) (fun _ _ _ h => h) (Or.inl ⟨by rfl, ?_⟩) ?_ ?_
  rotate_left
  · intro w'
    go_simp
    with_reducible rfl
  rotate_left
  · simp only [Act.put, List.setIfInBounds_toArray, List.set_cons_zero, List.set_cons_succ, i64_w, i32_w]
    rfl
  refine pure_ (i := 2) (N := (some 6)) (v := ?_) (a' := ?_) #[true, true, true, false, false, false, false, false, false, false, false, false, false, false, false, false, false, false] rfl rfl (any_of HT_.out (by kernel_rfl)) (fun _ _ _ h => h) (Or.inl ⟨by rfl, ?_⟩) ?_ ?_
  rotate_left
  · intro w'
    go_simp
    with_reducible rfl
  rotate_left
  · simp only [Act.put, List.setIfInBounds_toArray, List.set_cons_zero, List.set_cons_succ, i64_w, i32_w]
    rfl
  refine pure_ (i := 3) (N := (some 7)) (v := ?_) (a' := ?_) #[true, true, true, true, false, false, false, false, false, false, false, false, false, false, false, false, false, false] rfl rfl (any_of HT_.out (by kernel_rfl)) (fun _ _ _ h => h) (Or.inl ⟨by rfl, ?_⟩) ?_ ?_
  rotate_left
  · intro w'
    go_simp
    with_reducible rfl
  rotate_left
  · simp only [Act.put, List.setIfInBounds_toArray, List.set_cons_zero, List.set_cons_succ, i64_w, i32_w]
    rfl
  refine pure_ (i := 4) (N := (some 8)) (v := ?_) (a' := ?_) #[true, true, true, true, true, false, false, false, false, false, false, false, false, false, false, false, false, false] rfl rfl (any_of HT_.out (by kernel_rfl)) (fun _ _ _ h => h) (Or.inl ⟨by rfl, ?_⟩) ?_ ?_
  rotate_left
  · intro w'
    go_simp
    with_reducible rfl
  rotate_left
  · simp only [Act.put, List.setIfInBounds_toArray, List.set_cons_zero, List.set_cons_succ, i64_w, i32_w]
    rfl
  refine pure_ (i := 5) (N := (some 9)) (v := ?_) (a' := ?_) #[true, true, true, true, true, true, false, false, false, false, false, false, false, false, false, false, false, false] rfl rfl (any_of HT_.out (by kernel_rfl)) (fun _ _ _ h => h) (Or.inl ⟨by rfl, ?_⟩) ?_ ?_
  rotate_left
  · intro w'
    go_simp
    with_reducible rfl
  rotate_left
  · simp only [Act.put, List.setIfInBounds_toArray, List.set_cons_zero, List.set_cons_succ, i64_w, i32_w]
    rfl
  refine pure_ (i := 6) (N := (some 10)) (v := ?_) (a' := ?_) #[true, true, true, true, true, true, true, false, false, false, false, false, false, false, false, false, false, false] rfl rfl (any_of HT_.out (by kernel_rfl)) (fun _ _ _ h => h) (Or.inl ⟨by rfl, ?_⟩) ?_ ?_
  rotate_left
  · intro w'
    go_simp
    with_reducible rfl
  rotate_left
  · simp only [Act.put, List.setIfInBounds_toArray, List.set_cons_zero, List.set_cons_succ, i64_w, i32_w]
    rfl
  refine pure_ (i := 7) (N := (some 11)) (v := ?_) (a' := ?_) #[true, true, true, true, true, true, true, true, false, false, false, false, false, false, false, false, false, false] rfl rfl (any_of HT_.out (by kernel_rfl)) (fun _ _ _ h => h) (Or.inl ⟨by rfl, ?_⟩) ?_ ?_
  rotate_left
  · intro w'
    go_simp
    with_reducible rfl
  rotate_left
  · simp only [Act.put, List.setIfInBounds_toArray, List.set_cons_zero, List.set_cons_succ, i64_w, i32_w]
    rfl
  refine take_ (i := 8) (N := (some 12)) (v := ?_) (a' := ?_) #[true, true, true, true, true, true, true, true, true, false, false, false, false, false, false, false, false, false] rfl rfl (take_ofW HT_.out HW_.out (by kernel_rfl)) (fun _ _ _ h => h) (Or.inl ⟨by rfl, ?_⟩) hHeld ?_ ?_
  rotate_left
  · intro w' s0
    go_simp
    with_reducible rfl
  rotate_left
  · simp only [Act.put, List.setIfInBounds_toArray, List.set_cons_zero, List.set_cons_succ, i64_w, i32_w]
    rfl
  refine pure_ (i := 9) (N := (some 13)) (v := ?_) (a' := ?_) #[true, true, true, true, true, true, true, true, true, true, false, false, false, false, false, false, false, false] rfl rfl (any_of HT_.out (by kernel_rfl)) (fun _ _ _ h => h) (Or.inl ⟨by rfl, ?_⟩) ?_ ?_
  rotate_left
  · intro w'
    go_simp
    with_reducible rfl
  rotate_left
  · simp only [Act.put, List.setIfInBounds_toArray, List.set_cons_zero, List.set_cons_succ, i64_w, i32_w]
    rfl
  refine pure_ (i := 10) (N := (some 14)) (v := ?_) (a' := ?_) #[true, true, true, true, true, true, true, true, true, true, true, false, false, false, false, false, false, false] rfl rfl (any_of HT_.out (by kernel_rfl)) (fun _ _ _ h => h) (Or.inl ⟨by rfl, ?_⟩) ?_ ?_
  rotate_left
  · intro w'
    go_simp
    with_reducible rfl
  rotate_left
  · simp only [Act.put, List.setIfInBounds_toArray, List.set_cons_zero, List.set_cons_succ, i64_w, i32_w]
    rfl
  refine pure_ (i := 11) (N := (some 15)) (v := ?_) (a' := ?_) #[true, true, true, true, true, true, true, true, true, true, true, true, false, false, false, false, false, false] rfl rfl (any_of HT_.out (by kernel_rfl)) (fun _ _ _ h => h) (Or.inl ⟨by rfl, ?_⟩) ?_ ?_
  rotate_left
  · intro w'
    go_simp
    with_reducible rfl
  rotate_left
  · simp only [Act.put, List.setIfInBounds_toArray, List.set_cons_zero, List.set_cons_succ, i64_w, i32_w]
    rfl
  refine pure_ (i := 12) (N := (some 16)) (v := ?_) (a' := ?_) #[true, true, true, true, true, true, true, true, true, true, true, true, true, false, false, false, false, false] rfl rfl (any_of HT_.out (by kernel_rfl)) (fun _ _ _ h => h) (Or.inl ⟨by rfl, ?_⟩) ?_ ?_
  rotate_left
  · intro w'
    go_simp
    with_reducible rfl
  rotate_left
  · simp only [Act.put, List.setIfInBounds_toArray, List.set_cons_zero, List.set_cons_succ, i64_w, i32_w]
    rfl
  refine pure_ (i := 13) (N := (some 17)) (v := ?_) (a' := ?_) #[true, true, true, true, true, true, true, true, true, true, true, true, true, true, false, false, false, false] rfl rfl (any_of HT_.out (by kernel_rfl)) (fun _ _ _ h => h) (Or.inl ⟨by rfl, ?_⟩) ?_ ?_
  rotate_left
  · intro w'
    go_simp
    with_reducible rfl
  rotate_left
  · simp only [Act.put, List.setIfInBounds_toArray, List.set_cons_zero, List.set_cons_succ, i64_w, i32_w]
    rfl
  refine pure_ (i := 14) (N := (some 18)) (v := ?_) (a' := ?_) #[true, true, true, true, true, true, true, true, true, true, true, true, true, true, true, false, false, false] rfl rfl (any_of HT_.out (by kernel_rfl)) (fun _ _ _ h => h) (Or.inl ⟨by rfl, ?_⟩) ?_ ?_
  rotate_left
  · intro w'
    go_simp
    with_reducible rfl
  rotate_left
  · simp only [Act.put, List.setIfInBounds_toArray, List.set_cons_zero, List.set_cons_succ, i64_w, i32_w]
    rfl
  refine pure_ (i := 15) (N := (some 19)) (v := ?_) (a' := ?_) #[true, true, true, true, true, true, true, true, true, true, true, true, true, true, true, true, false, false] rfl rfl (any_of HT_.out (by kernel_rfl)) (fun _ _ _ h => h) (Or.inl ⟨by rfl, ?_⟩) ?_ ?_
  rotate_left
  · intro w'
    go_simp
    with_reducible rfl
  rotate_left
  · simp only [Act.put, List.setIfInBounds_toArray, List.set_cons_zero, List.set_cons_succ, i64_w, i32_w]
    rfl
  refine pure_ (i := 16) (N := (some 20)) (v := ?_) (a' := ?_) #[true, true, true, true, true, true, true, true, true, true, true, true, true, true, true, true, true, false] rfl rfl (any_of HT_.out (by kernel_rfl)) (fun _ _ _ h => h) (Or.inl ⟨by rfl, ?_⟩) ?_ ?_
  rotate_left
  · intro w'
    go_simp
    with_reducible rfl
  rotate_left
  · simp only [Act.put, List.setIfInBounds_toArray, List.set_cons_zero, List.set_cons_succ, i64_w, i32_w]
    rfl
  have hfz := HW.out.drew.frozen q
  refine last_ (i := 17) (N := none) #[true, true, true, true, true, true, true, true, true, true, true, true, true, true, true, true, true, true] rfl rfl (one_of HT_.out (by kernel_rfl)) (by decide) (fun K hK => ?_)
  refine skip_ (w1 := ?_) (by rfl) rfl ?_ ?_
  rotate_left
  · go_simp
    rfl
  refine hK.out _ _ ?_
  clear hK K
  refine done_ (done_of HT_.out (by kernel_rfl)) ?_
  go_wp2
  go_end0
  exact ⟨rfl, (HW.out.set q v).drew, below_drew1 (below_set HB.out hg)⟩
theorem and3 (q : Nat) (h : q < 4) : bits .and .i64 (q : Int) 3 = (q : Int) := (show ∀ q : Fin 4, bits .and .i64 (q.val : Int) 3 = (q.val : Int) by decide +kernel) ⟨q, h⟩
theorem and63 (i : Nat) (h : i < 256) : bits .and .i64 (i : Int) 63 = ((i % 64 : Nat) : Int) := (show ∀ q : Fin 256, bits .and .i64 (q.val : Int) 63 = ((q.val % 64 : Nat) : Int) by decide +kernel) ⟨i, h⟩
theorem shl1 (r : Nat) (h : r < 64) : IntKind.u64.wrap (2 ^ r) = ((2 ^ r : Nat) : Int) := (show ∀ q : Fin 64, IntKind.u64.wrap (2 ^ q.val) = ((2 ^ q.val : Nat) : Int) by decide +kernel) ⟨r, h⟩
theorem or_nat (a b : Nat) (ha : a < 18446744073709551616) (hb : b < 18446744073709551616) : Go.bits .or .u64 (a : Int) (b : Int) = ((a ||| b : Nat) : Int) := u64_or_nat a b ha hb
theorem pow_lt64 (r : Nat) (h : r < 64) : 2 ^ r < 18446744073709551616 := Nat.lt_of_lt_of_le (Nat.pow_lt_pow_right (by decide) h) (by decide)
theorem reedsolomon_errorBitfield8_set.calls (g : Nat) (W : Nat → Nat) (i : Nat) (hi : i < 256) (w0 w : World) (hW : Wd w g W) (hWb : ∀ x, W x < 18446744073709551616) (hg : w0.heap.size ≤ g) (hB : Below w0.heap.size w0 w) :
    Calls Tryd.prog 46 #[.pointer (some ⟨g, 0, none⟩), .int .i64 (i : Int)] w fun e w' => e = .returned (.tuple #[]) ∧ Wd w' g (fun x => if x = i / 64 then W (i / 64) ||| 2 ^ (i % 64) else W x) ∧ Below w0.heap.size w0 w' := by
  refine reedsolomon_errorBitfield8_set.core g W i (i / 64) (i % 64) (2 ^ (i % 64)) _ (by omega) ?_ (and63 i hi) (by omega) (shl1 _ (by omega)) (or_nat _ _ (hWb _) (pow_lt64 _ (by omega))) w0 w hW hg hB
  have e : wrap64 ((i : Int) / 64) = ((i / 64 : Nat) : Int) := by unfold wrap64; omega
  rw [e]
  exact and3 _ (by omega)

/-! ### reedsolomon_errorBitfield8_prepare: function 47 (given) -/
/-- One level up: a bit, or its neighbour at the distance b (s is two to the power of b). -/
def stp (h s x : Nat) : Nat := (x ||| (x &&& h) / s) ||| ((x &&& h / s) * s % 18446744073709551616)
def stx (x : Nat) : Nat := (x ||| x / 4294967296) ||| ((x ||| x / 4294967296) * 4294967296 % 18446744073709551616)
def upW : Nat → Nat → Nat
  | 0, x => x
  | j + 1, x => if j < 5 then stp (hiM j) (2 ^ 2 ^ j) (upW j x) else stx (upW j x)
theorem or_lt64 {a b : Nat} (ha : a < 18446744073709551616) (hb : b < 18446744073709551616) : a ||| b < 18446744073709551616 := Nat.or_lt_two_pow (n := 64) ha hb
theorem and_lt64 {a b : Nat} (ha : a < 18446744073709551616) : a &&& b < 18446744073709551616 := Nat.lt_of_le_of_lt Nat.and_le_left ha
theorem div_lt64 {a : Nat} (b : Nat) (ha : a < 18446744073709551616) : a / b < 18446744073709551616 := Nat.lt_of_le_of_lt (Nat.div_le_self _ _) ha
theorem stp_lt (h s x : Nat) (hx : x < 18446744073709551616) : stp h s x < 18446744073709551616 :=
  or_lt64 (or_lt64 hx (div_lt64 _ (and_lt64 hx))) (Nat.mod_lt _ (by decide))
theorem stx_lt (x : Nat) (hx : x < 18446744073709551616) : stx x < 18446744073709551616 :=
  or_lt64 (or_lt64 hx (div_lt64 _ hx)) (Nat.mod_lt _ (by decide))
theorem upW_lt (x : Nat) (hx : x < 18446744073709551616) : ∀ j, upW j x < 18446744073709551616
  | 0 => hx
  | j + 1 => by
    unfold upW
    split
    · exact stp_lt _ _ _ (upW_lt x hx j)
    · exact stx_lt _ (upW_lt x hx j)
theorem hiM_lt (j : Nat) (hj : j < 5) : hiM j < 18446744073709551616 := (show ∀ q : Fin 5, hiM q.val < 18446744073709551616 by decide +kernel) ⟨j, hj⟩
theorem wrap_nat (n : Nat) : IntKind.u64.wrap (n : Int) = ((n % 18446744073709551616 : Nat) : Int) := by
  rw [show IntKind.u64.wrap (n : Int) = (n : Int) % 18446744073709551616 by simp [IntKind.wrap, IntKind.bits, IntKind.signed]]
  omega
theorem stp_run (x h s : Nat) (hx : x < 18446744073709551616) (hh : h < 18446744073709551616) :
    bits .or .u64 (bits .or .u64 (x : Int) (bits .and .u64 (x : Int) (h : Int) / (s : Int))) (IntKind.u64.wrap (bits .and .u64 (x : Int) ((h : Int) / (s : Int)) * (s : Int))) = ((stp h s x : Nat) : Int) := by
  rw [u64_and_nat x h hx hh, ← Int.natCast_ediv, ← Int.natCast_ediv, u64_and_nat x (h / s) hx (div_lt64 _ hh), ← Int.natCast_mul, wrap_nat, u64_or_nat x _ hx (div_lt64 _ (and_lt64 hx)), u64_or_nat _ _ (or_lt64 hx (div_lt64 _ (and_lt64 hx))) (Nat.mod_lt _ (by decide))]
  rfl
theorem stx_run (x : Nat) (hx : x < 18446744073709551616) :
    bits .or .u64 (bits .or .u64 (x : Int) ((x : Int) / 4294967296)) (IntKind.u64.wrap (bits .or .u64 (x : Int) ((x : Int) / 4294967296) * 4294967296)) = ((stx x : Nat) : Int) := by
  rw [show (x : Int) / 4294967296 = ((x / 4294967296 : Nat) : Int) by omega, u64_or_nat x _ hx (div_lt64 _ hx), show ((x ||| x / 4294967296 : Nat) : Int) * 4294967296 = (((x ||| x / 4294967296) * 4294967296 : Nat) : Int) by omega, wrap_nat, u64_or_nat _ _ (or_lt64 hx (div_lt64 _ hx)) (Nat.mod_lt _ (by decide))]
  rfl
def reedsolomon_errorBitfield8_prepare.T29 : Bool × List (List Nat × List Nat) := (true, [([], []), ([], []), ([0], [0]), ([2], [2]), ([3], [3]), ([4, 1], [1, 4]), ([5], [5]), ([], []), ([], []), ([8], [8]), ([7], [7]), ([10], [10]), ([11], [11]), ([12, 9], [9, 12]), ([13], [13]), ([6, 14], [6, 14]), ([15, 0, 1, 2, 3, 4, 5, 6, 7, 8, 9, 10, 11, 12, 13, 14, 15], [15])])
def reedsolomon_errorBitfield8_prepare.B29 : List Nat := [0, 0, 1, 5, 13, 31, 63, 0, 0, 256, 128, 1152, 3200, 8064, 16256, 32767, 65535]
theorem reedsolomon_errorBitfield8_prepare.tab29 : rtab .any (opsOf Tryd.f47 29) = reedsolomon_errorBitfield8_prepare.T29 := by kernel_rfl
theorem reedsolomon_errorBitfield8_prepare.bits29 : waitsOk reedsolomon_errorBitfield8_prepare.T29.2 reedsolomon_errorBitfield8_prepare.B29 = true := by kernel_rfl
set_option maxHeartbeats 8000000 in
set_option maxRecDepth 100000 in
theorem reedsolomon_errorBitfield8_prepare.calls (g : Nat) (W0 : Nat → Nat) (w0 w : World) (hGM : GlobM w0) (hW : Wd w g W0) (hWb : ∀ x, W0 x < 18446744073709551616) (hg : w0.heap.size ≤ g) (hB : Below w0.heap.size w0 w) :
    Calls Tryd.prog 47 #[.pointer (some ⟨g, 0, none⟩)] w fun e w' => e = .returned (.tuple #[]) ∧ (∃ W, Wd w' g W ∧ (∀ x, W x < 18446744073709551616) ∧ (∀ x, x < 4 → ∀ j, j < 6 → W (j * 4 + x) = upW (j + 1) (W0 x)) ∧ ∀ x, x < 4 → W (24 + x) = upW 6 (W0 (x / 2 * 2)) ||| upW 6 (W0 (x / 2 * 2 + 1))) ∧ Below w0.heap.size w0 w' := by
  have hu60 := Tryd.underlying60
  have hu61 := Tryd.underlying61
  have hu62 := Tryd.underlying62
  have hu63 := Tryd.underlying63
  have hu78 := Tryd.underlying78
  have HW := Aside0.mk hW
  have HB := Aside0.mk hB
  clear hW hB
  go_enter Tryd.func47, Tryd.ntmps47
  go_wp2
  go_loopg [14] 4 (fun kq v14 w' => ∃ (i : Nat) (W : Nat → Nat), v14 = .int .i64 (i : Int) ∧ Aside0 (i + kq = 4) ∧ Aside0 (Wd w' g W) ∧ Aside0 ((∀ x, W x < 18446744073709551616) ∧ (∀ x, x < i → ∀ j, j < 5 → W (j * 4 + x) = upW (j + 1) (W0 x)) ∧ ∀ x, i ≤ x → x < 4 → W x = W0 x) ∧ Aside0 (Below w0.heap.size w0 w'))
  case atStart => exact ⟨0, W0, rfl, ⟨rfl⟩, HW, ⟨hWb, fun x hx => absurd hx (by omega), fun x _ _ => rfl⟩, HB⟩
  case round =>
    clear HW HB
    obtain ⟨i, W, rfl, HI, HW, HV, HB⟩ := hrel
    by_cases c1 : i < 4
    · have hm4' : ((i : Int) < 4) = True := eq_true (by omega)
      have hmd := decide_eq_true (show (i : Int) < 4 by omega)
      have hc1 := HW.out.cell i (by omega)
      have hf1 := HW.out.frozen i
      have hc2 := (hGM.below HB.out).out 0 (by decide)
      have HX := Aside0.mk (HV.out.2.2 i (Nat.le_refl _) c1)
      rw [HX.out] at hc1
      have hsp := stp_run (W0 i) (hiM 0) 2 (hWb i) (hiM_lt 0 (by decide))
      rw [show ((2 : Nat) : Int) = 2 from rfl] at hsp
      have HZ := Aside0.mk (show stp (hiM 0) 2 (W0 i) = upW 1 (W0 i) from rfl)
      rw [HZ.out] at hsp
      generalize hiM 0 = h0 at hc2 hsp
      generalize hx0 : W0 i = x0 at hc1 hsp
      generalize hx1 : upW 1 x0 = x1 at hsp
      go_wp2
      try simp only [hsp]
      have HW1 := Aside0.mk (HW.out.set i x1)
      have HB1 := Aside0.mk (below_set (j := i) (v := .int .u64 (x1 : Int)) HB.out hg)
      have HE := Aside0.mk (show x1 = upW 1 (W0 i) by rw [← hx1, ← hx0])
      clear hsp hc2 hc1 hf1 HX hmd hm4'
      clear HW HB
      generalize wr.setCell ⟨g, i, none⟩ (.int .u64 (x1 : Int)) = w1 at HW1 HB1 ⊢
      go_loopg [3, 6, 7] 5 (fun kq v3 v6 v7 w' => ∃ (j x b : Nat) (W : Nat → Nat), v3 = .int .u64 (x : Int) ∧ v6 = .int .i64 (b : Int) ∧ v7 = .int .i64 (j : Int) ∧ Aside0 (1 ≤ j ∧ j ≤ 5 ∧ j + kq = 6 ∧ b = 2 ^ j ∧ x = upW j (W0 i)) ∧ Aside0 (Wd w' g W) ∧ Aside0 ((∀ x, W x < 18446744073709551616) ∧ (∀ x, x < i → ∀ j, j < 5 → W (j * 4 + x) = upW (j + 1) (W0 x)) ∧ (∀ x, i < x → x < 4 → W x = W0 x) ∧ ∀ j', j' < j → W (j' * 4 + i) = upW (j' + 1) (W0 i)) ∧ Aside0 (Below w0.heap.size w0 w'))
      case atStart =>
        refine ⟨1, x1, 2, _, rfl, rfl, rfl, ⟨by decide, by decide, rfl, rfl, HE.out⟩, HW1, ⟨fun x => ?_, fun x hx j hj => ?_, fun x hx hx4 => ?_, fun j' hj' => ?_⟩, HB1⟩
        · show (if x = i then x1 else W x) < _
          split
          · rw [HE.out]
            exact upW_lt _ (hWb _) _
          · exact HV.out.1 x
        · show (if j * 4 + x = i then x1 else _) = _
          rw [if_neg (by omega)]
          exact HV.out.2.1 x hx j hj
        · show (if x = i then x1 else _) = _
          rw [if_neg (by omega)]
          exact HV.out.2.2 x (by omega) hx4
        · have : j' = 0 := by omega
          subst this
          show (if 0 * 4 + i = i then x1 else _) = _
          rw [if_pos (by omega)]
          exact HE.out
      case round =>
        clear HW1 HB1 HE HV W
        obtain ⟨j, x, b, W, rfl, rfl, rfl, HJ, HW, HV, HB⟩ := hrel
        by_cases c2 : j < 5
        · have hm4' : ((i : Int) < 4) = True := eq_true (by omega)
          have hm5' : ((j : Int) < 5) = True := eq_true (by omega)
          have hm7' : ((j : Int) < 7) = True := eq_true (by omega)
          have hmd := decide_eq_true (show (j : Int) < 5 by omega)
          have hc1 := HW.out.cell (j * 4 + i) (by omega)
          have hf1 := HW.out.frozen (j * 4 + i)
          have hb0 : ((b : Int) < 0) = False := eq_false (by omega)
          have hbl : b < 64 := by
            rw [HJ.out.2.2.2.1]
            exact Nat.lt_of_lt_of_le (Nat.pow_lt_pow_right (a := 2) (by decide) (show j < 6 by omega)) (by decide)
          have hx64 : x < 18446744073709551616 := by
            rw [HJ.out.2.2.2.2]
            exact upW_lt _ (hWb _) _
          obtain ⟨pb, hpw, HPB⟩ : ∃ pb : Nat, (2 : Int) ^ min b 64 = (pb : Int) ∧ Aside0 (2 ^ b = pb) := ⟨2 ^ b, by
            rw [Nat.min_eq_left (by omega), Int.natCast_pow]
            rfl, ⟨rfl⟩⟩
          obtain ⟨h1, hc2, HH1⟩ : ∃ h1 : Nat, wr.cell? ⟨2, j, none⟩ = some (.int .u64 (h1 : Int)) ∧ Aside0 (hiM j = h1) := ⟨_, (hGM.below HB.out).out j c2, ⟨rfl⟩⟩
          obtain ⟨x2, hsp, HX2⟩ : ∃ x2 : Nat, bits .or .u64 (bits .or .u64 (x : Int) (bits .and .u64 (x : Int) (h1 : Int) / (pb : Int))) (IntKind.u64.wrap (bits .and .u64 (x : Int) ((h1 : Int) / (pb : Int)) * (pb : Int))) = (x2 : Int) ∧ Aside0 (upW (j + 1) (W0 i) = x2) := by
            refine ⟨_, stp_run x h1 pb hx64 (HH1.out ▸ hiM_lt j c2), ⟨?_⟩⟩
            rw [← HH1.out, ← HPB.out, HJ.out.2.2.2.1, HJ.out.2.2.2.2]
            show (if j < 5 then _ else _) = _
            rw [if_pos c2]
          have hsh : wrap64 ((b : Int) * 2) = ((b * 2 : Nat) : Int) := by unfold wrap64; omega
          clear hx64 hbl hx0 hx1
          go_wp2
          try simp only [hpw, hsp, hsh]
          have hx2 := HX2.out
          have hb := HJ.out.2.2.2.1
          have hjq := HJ.out
          have HW1 := Aside0.mk (HW.out.set (j * 4 + i) x2)
          have HB1 := Aside0.mk (below_set (j := j * 4 + i) (v := .int .u64 (x2 : Int)) HB.out hg)
          clear hsp hc2 hc1 hf1 hpw
          go_roundg (5 - j)
          case measure => omega
          case rel =>
            refine ⟨j + 1, x2, b * 2, _, rfl, rfl, rfl, ⟨by omega, by omega, by omega, by rw [hb, Nat.pow_succ], hx2.symm⟩, HW1, ⟨fun y => ?_, fun y hy j' hj' => ?_, fun y hy hy4 => ?_, fun j' hj' => ?_⟩, HB1⟩
            · show (if y = j * 4 + i then x2 else W y) < _
              split
              · rw [← hx2]
                exact upW_lt _ (hWb _) _
              · exact HV.out.1 y
            · show (if j' * 4 + y = j * 4 + i then x2 else _) = _
              rw [if_neg (by omega)]
              exact HV.out.2.1 y hy j' hj'
            · show (if y = j * 4 + i then x2 else _) = _
              rw [if_neg (by omega)]
              exact HV.out.2.2.1 y (by omega) hy4
            · show (if j' * 4 + i = j * 4 + i then x2 else _) = _
              by_cases e : j' = j
              · subst e
                rw [if_pos rfl]
                exact hx2.symm
              · rw [if_neg (by omega)]
                exact HV.out.2.2.2 j' (by omega)
        · have hmd := decide_eq_false (show ¬ (j : Int) < 5 by omega)
          have hi1 : wrap64 ((i : Int) + 1) = ((i + 1 : Nat) : Int) := by unfold wrap64; omega
          go_wp2
          go_roundg (3 - i)
          case measure => have := HI.out; omega
          case rel =>
            have hj5 : j = 5 := by have := HJ.out; omega
            subst hj5
            refine ⟨i + 1, W, rfl, ⟨by have := HI.out; omega⟩, HW, ⟨HV.out.1, fun y hy j' hj' => ?_, fun y hy hy4 => HV.out.2.2.1 y (by omega) hy4⟩, HB⟩
            by_cases e : y = i
            · subst e
              exact HV.out.2.2.2 j' hj'
            · exact HV.out.2.1 y (by omega) j' hj'
    · have hmd := decide_eq_false (show ¬ (i : Int) < 4 by omega)
      have hi4 : i = 4 := by have := HI.out; omega
      subst hi4
      go_wp2
      go_loopg [83] 4 (fun kq v83 w' => ∃ (i : Nat) (W : Nat → Nat), v83 = .int .i64 (i : Int) ∧ Aside0 (i + kq = 4) ∧ Aside0 (Wd w' g W) ∧ Aside0 ((∀ x, W x < 18446744073709551616) ∧ (∀ x, x < 4 → ∀ j, j < 5 → W (j * 4 + x) = upW (j + 1) (W0 x)) ∧ ∀ x, x < i → W (20 + x) = upW 6 (W0 x)) ∧ Aside0 (Below w0.heap.size w0 w'))
      case atStart => exact ⟨0, W, rfl, ⟨rfl⟩, HW, ⟨HV.out.1, HV.out.2.1, fun x hx => absurd hx (by omega)⟩, HB⟩
      case round =>
        clear HW HB HV W HI hmd
        obtain ⟨i, W, rfl, HI, HW, HV, HB⟩ := hrel
        by_cases c1 : i < 4
        · have hm4' : ((i : Int) < 4) = True := eq_true (by omega)
          have hmd := decide_eq_true (show (i : Int) < 4 by omega)
          have hf1 := HW.out.frozen (20 + i)
          have hc2 := HW.out.cell (20 + i) (by omega)
          obtain ⟨x, hc1, hx64, HX⟩ : ∃ x : Nat, wr.cell? ⟨g, 16 + i, none⟩ = some (.int .u64 (x : Int)) ∧ x < 18446744073709551616 ∧ Aside0 (stx x = upW 6 (W0 i)) := by
            refine ⟨_, HW.out.cell (16 + i) (by omega), HV.out.1 _, ⟨?_⟩⟩
            rw [show 16 + i = 4 * 4 + i by omega, HV.out.2.1 i c1 4 (by decide)]
            rfl
          have hsp := stx_run x hx64
          rw [HX.out] at hsp
          obtain ⟨z, hz, HZ⟩ : ∃ z : Nat, upW 6 (W0 i) = z ∧ Aside0 (upW 6 (W0 i) = z) := ⟨_, rfl, ⟨rfl⟩⟩
          rw [hz] at hsp
          have hi1 : wrap64 ((i : Int) + 1) = ((i + 1 : Nat) : Int) := by unfold wrap64; omega
          clear hz hx64
          go_wp2
          try simp only [hsp]
          have HW1 := Aside0.mk (HW.out.set (20 + i) z)
          have HB1 := Aside0.mk (below_set (j := 20 + i) (v := .int .u64 (z : Int)) HB.out hg)
          go_roundg (3 - i)
          case measure => have := HI.out; omega
          case rel =>
            refine ⟨i + 1, _, rfl, ⟨by have := HI.out; omega⟩, HW1, ⟨fun y => ?_, fun y hy j hj => ?_, fun y hy => ?_⟩, HB1⟩
            · show (if y = 20 + i then z else W y) < _
              split
              · rw [← HZ.out]
                exact upW_lt _ (hWb _) _
              · exact HV.out.1 y
            · show (if j * 4 + y = 20 + i then z else _) = _
              rw [if_neg (by omega)]
              exact HV.out.2.1 y hy j hj
            · show (if 20 + y = 20 + i then z else _) = _
              by_cases e : y = i
              · subst e
                rw [if_pos rfl]
                exact HZ.out.symm
              · rw [if_neg (by omega)]
                exact HV.out.2.2 y (by omega)
        · have hmd := decide_eq_false (show ¬ (i : Int) < 4 by omega)
          have hi4 : i = 4 := by have := HI.out; omega
          subst hi4
          go_wp2
          go_loopg [12] 4 (fun kq v12 w' => ∃ (i : Nat) (W : Nat → Nat), v12 = .int .i64 (i : Int) ∧ Aside0 ((i = 0 ∨ i = 2 ∨ i = 4) ∧ i + kq = 4) ∧ Aside0 (Wd w' g W) ∧ Aside0 ((∀ x, W x < 18446744073709551616) ∧ (∀ x, x < 4 → ∀ j, j < 6 → W (j * 4 + x) = upW (j + 1) (W0 x)) ∧ ∀ x, x < i → x < 4 → W (24 + x) = upW 6 (W0 (x / 2 * 2)) ||| upW 6 (W0 (x / 2 * 2 + 1))) ∧ Aside0 (Below w0.heap.size w0 w'))
          case atStart =>
            refine ⟨0, W, rfl, ⟨Or.inl rfl, rfl⟩, HW, ⟨HV.out.1, fun x hx j hj => ?_, fun x hx => absurd hx (by omega)⟩, HB⟩
            by_cases e : j = 5
            · subst e
              exact HV.out.2.2 x hx
            · exact HV.out.2.1 x hx j (by omega)
          case round =>
            clear HW HB HV W HI hmd
            obtain ⟨i, W, rfl, HI, HW, HV, HB⟩ := hrel
            rcases HI.out.1 with rfl | rfl | rfl
            ·           obtain ⟨z, hz, HZ⟩ : ∃ z : Nat, bits .or .u64 ((W 20 : Nat) : Int) ((W 21 : Nat) : Int) = (z : Int) ∧ Aside0 (z = upW 6 (W0 0) ||| upW 6 (W0 1)) := by
                          refine ⟨_, u64_or_nat _ _ (HV.out.1 _) (HV.out.1 _), ⟨?_⟩⟩
                          rw [HV.out.2.1 0 (by decide) 5 (by decide), HV.out.2.1 1 (by decide) 5 (by decide)]
                        have hww : wrap64 1 = 1 := by unfold wrap64; omega
                        go_wp2
                        refine start_ (n := 17) (S := fun w' => w'.cell? ⟨g, 20, none⟩ = some (.int .u64 ((W 20 : Nat) : Int)) ∧ w'.cell? ⟨g, 21, none⟩ = some (.int .u64 ((W 21 : Nat) : Int))) (ds := []) #[false, false, false, false, false, false, false, false, false, false, false, false, false, false, false, false, false] (by kernel_rfl) rfl rfl (⟨HW.out.drew.cell 20 (by decide), HW.out.drew.cell 21 (by decide)⟩) (fun hHeld => ?_)
                        refine with_tabW reedsolomon_errorBitfield8_prepare.tab29 reedsolomon_errorBitfield8_prepare.bits29 (fun HT_ HW_ => ?_)
                        refine pure_ (i := 0) (N := (some 113)) (v := ?_) (a' := ?_) #[true, false, false, false, false, false, false, false, false, false, false, false, false, false, false, false, false] rfl rfl (any_of HT_.out (by kernel_rfl)) (fun _ _ _ h => h) (Or.inl ⟨by rfl, ?_⟩) ?_ ?_
                        rotate_left
                        · intro w'
                          go_simp
                          with_reducible rfl
                        rotate_left
                        · simp only [Act.put, List.setIfInBounds_toArray, List.set_cons_zero, List.set_cons_succ, i64_w, i32_w]
                          rfl
                        refine pure_ (i := 1) (N := (some 114)) (v := ?_) (a' := ?_) #[true, true, false, false, false, false, false, false, false, false, false, false, false, false, false, false, false] rfl rfl (any_of HT_.out (by kernel_rfl)) (fun _ _ _ h => h) (Or.inl ⟨by rfl, ?_⟩) ?_ ?_
                        rotate_left
                        · intro w'
                          go_simp
                          with_reducible rfl
                        rotate_left
                        · simp only [Act.put, List.setIfInBounds_toArray, List.set_cons_zero, List.set_cons_succ, i64_w, i32_w]
                          rfl
                        refine pure_ (i := 2) (N := (some 115)) (v := ?_) (a' := ?_) #[true, true, true, false, false, false, false, false, false, false, false, false, false, false, false, false, false] rfl rfl (any_of HT_.out (by kernel_rfl)) (fun _ _ _ h => h) (Or.inl ⟨by rfl, ?_⟩) ?_ ?_
                        rotate_left
                        · intro w'
                          go_simp
                          with_reducible rfl
                        rotate_left
                        · simp only [Act.put, List.setIfInBounds_toArray, List.set_cons_zero, List.set_cons_succ, i64_w, i32_w]
                          rfl
                        refine pure_ (i := 3) (N := (some 116)) (v := ?_) (a' := ?_) #[true, true, true, true, false, false, false, false, false, false, false, false, false, false, false, false, false] rfl rfl (any_of HT_.out (by kernel_rfl)) (fun _ _ _ h => h) (Or.inl ⟨by rfl, ?_⟩) ?_ ?_
                        rotate_left
                        · intro w'
                          go_simp
                          with_reducible rfl
                        rotate_left
                        · simp only [Act.put, List.setIfInBounds_toArray, List.set_cons_zero, List.set_cons_succ, i64_w, i32_w]
                          rfl
                        refine pure_ (i := 4) (N := (some 117)) (v := ?_) (a' := ?_) #[true, true, true, true, true, false, false, false, false, false, false, false, false, false, false, false, false] rfl rfl (any_of HT_.out (by kernel_rfl)) (fun _ _ _ h => h) (Or.inl ⟨by rfl, ?_⟩) ?_ ?_
                        rotate_left
                        · intro w'
                          go_simp
                          with_reducible rfl
                        rotate_left
                        · simp only [Act.put, List.setIfInBounds_toArray, List.set_cons_zero, List.set_cons_succ, i64_w, i32_w]
                          rfl
                        refine pure_ (i := 5) (N := (some 118)) (v := ?_) (a' := ?_) #[true, true, true, true, true, true, false, false, false, false, false, false, false, false, false, false, false] rfl rfl (any_of HT_.out (by kernel_rfl)) (fun _ _ _ h => h) (Or.inl ⟨by rfl, ?_⟩) ?_ ?_
                        rotate_left
                        · intro w'
                          go_simp
                          with_reducible rfl
                        rotate_left
                        · simp only [Act.put, List.setIfInBounds_toArray, List.set_cons_zero, List.set_cons_succ, i64_w, i32_w]
                          rfl
                        refine take_ (i := 6) (N := (some 119)) (v := ?_) (a' := ?_) #[true, true, true, true, true, true, true, false, false, false, false, false, false, false, false, false, false] rfl rfl (take_ofW HT_.out HW_.out (by kernel_rfl)) (fun _ _ _ h => h) (Or.inl ⟨by rfl, ?_⟩) hHeld ?_ ?_
                        rotate_left
                        · rintro w' ⟨s0, s1⟩
                          go_simp
                          with_reducible rfl
                        rotate_left
                        · simp only [Act.put, List.setIfInBounds_toArray, List.set_cons_zero, List.set_cons_succ, i64_w, i32_w]
                          rfl
                        refine pure_ (i := 7) (N := (some 120)) (v := ?_) (a' := ?_) #[true, true, true, true, true, true, true, true, false, false, false, false, false, false, false, false, false] rfl rfl (any_of HT_.out (by kernel_rfl)) (fun _ _ _ h => h) (Or.inl ⟨by rfl, ?_⟩) ?_ ?_
                        rotate_left
                        · intro w'
                          go_simp
                          with_reducible rfl
                        rotate_left
                        · simp only [Act.put, List.setIfInBounds_toArray, List.set_cons_zero, List.set_cons_succ, i64_w, i32_w]
                          rfl
                        refine pure_ (i := 8) (N := (some 121)) (v := ?_) (a' := ?_) #[true, true, true, true, true, true, true, true, true, false, false, false, false, false, false, false, false] rfl rfl (any_of HT_.out (by kernel_rfl)) (fun _ _ _ h => h) (Or.inl ⟨by rfl, ?_⟩) ?_ ?_
                        rotate_left
                        · intro w'
                          go_simp
                          with_reducible rfl
                        rotate_left
                        · simp only [Act.put, List.setIfInBounds_toArray, List.set_cons_zero, List.set_cons_succ, i64_w, i32_w]
                          rfl
                        refine pure_ (i := 9) (N := (some 122)) (v := ?_) (a' := ?_) #[true, true, true, true, true, true, true, true, true, true, false, false, false, false, false, false, false] rfl rfl (any_of HT_.out (by kernel_rfl)) (fun _ _ _ h => h) (Or.inl ⟨by rfl, ?_⟩) ?_ ?_
                        rotate_left
                        · intro w'
                          go_simp
                          with_reducible rfl
                        rotate_left
                        · simp only [Act.put, List.setIfInBounds_toArray, List.set_cons_zero, List.set_cons_succ, i64_w, i32_w]
                          rfl
                        refine pure_ (i := 10) (N := (some 123)) (v := ?_) (a' := ?_) #[true, true, true, true, true, true, true, true, true, true, true, false, false, false, false, false, false] rfl rfl (any_of HT_.out (by kernel_rfl)) (fun _ _ _ h => h) (Or.inl ⟨by rfl, ?_⟩) ?_ ?_
                        rotate_left
                        · intro w'
                          go_simp
                          with_reducible rfl
                        rotate_left
                        · simp only [Act.put, List.setIfInBounds_toArray, List.set_cons_zero, List.set_cons_succ, i64_w, i32_w]
                          rfl
                        refine pure_ (i := 11) (N := (some 124)) (v := ?_) (a' := ?_) #[true, true, true, true, true, true, true, true, true, true, true, true, false, false, false, false, false] rfl rfl (any_of HT_.out (by kernel_rfl)) (fun _ _ _ h => h) (Or.inl ⟨by rfl, ?_⟩) ?_ ?_
                        rotate_left
                        · intro w'
                          go_simp
                          with_reducible rfl
                        rotate_left
                        · simp only [Act.put, List.setIfInBounds_toArray, List.set_cons_zero, List.set_cons_succ, i64_w, i32_w]
                          rfl
                        refine pure_ (i := 12) (N := (some 125)) (v := ?_) (a' := ?_) #[true, true, true, true, true, true, true, true, true, true, true, true, true, false, false, false, false] rfl rfl (any_of HT_.out (by kernel_rfl)) (fun _ _ _ h => h) (Or.inl ⟨by rfl, ?_⟩) ?_ ?_
                        rotate_left
                        · intro w'
                          go_simp
                          with_reducible rfl
                        rotate_left
                        · simp only [Act.put, List.setIfInBounds_toArray, List.set_cons_zero, List.set_cons_succ, i64_w, i32_w]
                          rfl
                        refine pure_ (i := 13) (N := (some 126)) (v := ?_) (a' := ?_) #[true, true, true, true, true, true, true, true, true, true, true, true, true, true, false, false, false] rfl rfl (any_of HT_.out (by kernel_rfl)) (fun _ _ _ h => h) (Or.inl ⟨by rfl, ?_⟩) ?_ ?_
                        rotate_left
                        · intro w'
                          go_simp
                          with_reducible rfl
                        rotate_left
                        · simp only [Act.put, List.setIfInBounds_toArray, List.set_cons_zero, List.set_cons_succ, i64_w, i32_w]
                          rfl
                        refine take_ (i := 14) (N := (some 127)) (v := ?_) (a' := ?_) #[true, true, true, true, true, true, true, true, true, true, true, true, true, true, true, false, false] rfl rfl (take_ofW HT_.out HW_.out (by kernel_rfl)) (fun _ _ _ h => h) (Or.inl ⟨by rfl, ?_⟩) hHeld ?_ ?_
                        rotate_left
                        · rintro w' ⟨s0, s1⟩
                          go_simp
                          with_reducible rfl
                        rotate_left
                        · simp only [Act.put, List.setIfInBounds_toArray, List.set_cons_zero, List.set_cons_succ, i64_w, i32_w]
                          rfl
                        refine pure_ (i := 15) (N := (some 128)) (v := ?_) (a' := ?_) #[true, true, true, true, true, true, true, true, true, true, true, true, true, true, true, true, false] rfl rfl (any_of HT_.out (by kernel_rfl)) (fun _ _ _ h => h) (Or.inl ⟨by rfl, ?_⟩) ?_ ?_
                        rotate_left
                        · intro w'
                          go_simp
                          with_reducible rfl
                        rotate_left
                        · simp only [Act.put, List.setIfInBounds_toArray, List.set_cons_zero, List.set_cons_succ, i64_w, i32_w]
                          rfl
                        refine pure_ (i := 16) (N := (some 13)) (v := ?_) (a' := ?_) #[true, true, true, true, true, true, true, true, true, true, true, true, true, true, true, true, true] rfl rfl (any_of HT_.out (by kernel_rfl)) (fun _ _ _ h => h) (Or.inl ⟨by rfl, ?_⟩) ?_ ?_
                        rotate_left
                        · intro w'
                          go_simp
                          with_reducible rfl
                        rotate_left
                        · simp only [Act.put, List.setIfInBounds_toArray, List.set_cons_zero, List.set_cons_succ, i64_w, i32_w]
                          rfl
                        refine done_ (done_of HT_.out (by kernel_rfl)) ?_
                        have hc1 := HW.out.cell (4 + 20) (by decide)
                        have hf1 := HW.out.frozen (4 + 20)
                        have hc2 := (HW.out.set (4 + 20) z).cell (4 + 21) (by decide)
                        have hf2 := (HW.out.set (4 + 20) z).frozen (4 + 21)
                        have hc3 := HW.out.cell (4 + 21) (by decide)
                        have hf3 := HW.out.frozen (4 + 21)
                        go_wp2
                        try simp only [hz]
                        have HW1 := Aside0.mk ((HW.out.set (4 + 20) z).set (4 + 21) z).drew
                        have HB1 := Aside0.mk (below_drew1 (below_set (j := 4 + 21) (v := .int .u64 (z : Int)) (below_set (j := 4 + 20) (v := .int .u64 (z : Int)) HB.out hg) hg))
                        go_roundg 2
                        case measure => have := HI.out; omega
                        case rel =>
                          refine ⟨0 + 2, _, rfl, ⟨by have := HI.out; omega⟩, HW1, ⟨fun y => ?_, fun y hy j hj => ?_, fun y hy hy4 => ?_⟩, HB1⟩
                          · show (if y = 4 + 21 then z else if y = 4 + 20 then z else W y) < _
                            have hz64 : z < 18446744073709551616 := by
                              rw [HZ.out]
                              exact or_lt64 (upW_lt _ (hWb _) _) (upW_lt _ (hWb _) _)
                            split
                            · exact hz64
                            · split
                              · exact hz64
                              · exact HV.out.1 y
                          · show (if j * 4 + y = 4 + 21 then z else if j * 4 + y = 4 + 20 then z else W _) = _
                            rw [if_neg (by omega), if_neg (by omega)]
                            exact HV.out.2.1 y hy j hj
                          · show (if 24 + y = 4 + 21 then z else if 24 + y = 4 + 20 then z else W _) = _
                            by_cases e1 : y = 1
                            · subst e1
                              rw [if_pos (by decide)]
                              exact HZ.out
                            · by_cases e2 : y = 0
                              · subst e2
                                rw [if_neg (by decide), if_pos (by decide)]
                                exact HZ.out
                              · rw [if_neg (by omega), if_neg (by omega)]
                                exact HV.out.2.2 y (by omega) hy4
            ·           obtain ⟨z, hz, HZ⟩ : ∃ z : Nat, bits .or .u64 ((W 22 : Nat) : Int) ((W 23 : Nat) : Int) = (z : Int) ∧ Aside0 (z = upW 6 (W0 2) ||| upW 6 (W0 3)) := by
                          refine ⟨_, u64_or_nat _ _ (HV.out.1 _) (HV.out.1 _), ⟨?_⟩⟩
                          rw [HV.out.2.1 2 (by decide) 5 (by decide), HV.out.2.1 3 (by decide) 5 (by decide)]
                        have hww : wrap64 3 = 3 := by unfold wrap64; omega
                        go_wp2
                        refine start_ (n := 17) (S := fun w' => w'.cell? ⟨g, 22, none⟩ = some (.int .u64 ((W 22 : Nat) : Int)) ∧ w'.cell? ⟨g, 23, none⟩ = some (.int .u64 ((W 23 : Nat) : Int))) (ds := []) #[false, false, false, false, false, false, false, false, false, false, false, false, false, false, false, false, false] (by kernel_rfl) rfl rfl (⟨HW.out.drew.cell 22 (by decide), HW.out.drew.cell 23 (by decide)⟩) (fun hHeld => ?_)
                        refine with_tabW reedsolomon_errorBitfield8_prepare.tab29 reedsolomon_errorBitfield8_prepare.bits29 (fun HT_ HW_ => ?_)
                        refine pure_ (i := 0) (N := (some 113)) (v := ?_) (a' := ?_) #[true, false, false, false, false, false, false, false, false, false, false, false, false, false, false, false, false] rfl rfl (any_of HT_.out (by kernel_rfl)) (fun _ _ _ h => h) (Or.inl ⟨by rfl, ?_⟩) ?_ ?_
                        rotate_left
                        · intro w'
                          go_simp
                          with_reducible rfl
                        rotate_left
                        · simp only [Act.put, List.setIfInBounds_toArray, List.set_cons_zero, List.set_cons_succ, i64_w, i32_w]
                          rfl
                        refine pure_ (i := 1) (N := (some 114)) (v := ?_) (a' := ?_) #[true, true, false, false, false, false, false, false, false, false, false, false, false, false, false, false, false] rfl rfl (any_of HT_.out (by kernel_rfl)) (fun _ _ _ h => h) (Or.inl ⟨by rfl, ?_⟩) ?_ ?_
                        rotate_left
                        · intro w'
                          go_simp
                          with_reducible rfl
                        rotate_left
                        · simp only [Act.put, List.setIfInBounds_toArray, List.set_cons_zero, List.set_cons_succ, i64_w, i32_w]
                          rfl
                        refine pure_ (i := 2) (N := (some 115)) (v := ?_) (a' := ?_) #[true, true, true, false, false, false, false, false, false, false, false, false, false, false, false, false, false] rfl rfl (any_of HT_.out (by kernel_rfl)) (fun _ _ _ h => h) (Or.inl ⟨by rfl, ?_⟩) ?_ ?_
                        rotate_left
                        · intro w'
                          go_simp
                          with_reducible rfl
                        rotate_left
                        · simp only [Act.put, List.setIfInBounds_toArray, List.set_cons_zero, List.set_cons_succ, i64_w, i32_w]
                          rfl
                        refine pure_ (i := 3) (N := (some 116)) (v := ?_) (a' := ?_) #[true, true, true, true, false, false, false, false, false, false, false, false, false, false, false, false, false] rfl rfl (any_of HT_.out (by kernel_rfl)) (fun _ _ _ h => h) (Or.inl ⟨by rfl, ?_⟩) ?_ ?_
                        rotate_left
                        · intro w'
                          go_simp
                          with_reducible rfl
                        rotate_left
                        · simp only [Act.put, List.setIfInBounds_toArray, List.set_cons_zero, List.set_cons_succ, i64_w, i32_w]
                          rfl
                        refine pure_ (i := 4) (N := (some 117)) (v := ?_) (a' := ?_) #[true, true, true, true, true, false, false, false, false, false, false, false, false, false, false, false, false] rfl rfl (any_of HT_.out (by kernel_rfl)) (fun _ _ _ h => h) (Or.inl ⟨by rfl, ?_⟩) ?_ ?_
                        rotate_left
                        · intro w'
                          go_simp
                          with_reducible rfl
                        rotate_left
                        · simp only [Act.put, List.setIfInBounds_toArray, List.set_cons_zero, List.set_cons_succ, i64_w, i32_w]
                          rfl
                        refine pure_ (i := 5) (N := (some 118)) (v := ?_) (a' := ?_) #[true, true, true, true, true, true, false, false, false, false, false, false, false, false, false, false, false] rfl rfl (any_of HT_.out (by kernel_rfl)) (fun _ _ _ h => h) (Or.inl ⟨by rfl, ?_⟩) ?_ ?_
                        rotate_left
                        · intro w'
                          go_simp
                          with_reducible rfl
                        rotate_left
                        · simp only [Act.put, List.setIfInBounds_toArray, List.set_cons_zero, List.set_cons_succ, i64_w, i32_w]
                          rfl
                        refine take_ (i := 6) (N := (some 119)) (v := ?_) (a' := ?_) #[true, true, true, true, true, true, true, false, false, false, false, false, false, false, false, false, false] rfl rfl (take_ofW HT_.out HW_.out (by kernel_rfl)) (fun _ _ _ h => h) (Or.inl ⟨by rfl, ?_⟩) hHeld ?_ ?_
                        rotate_left
                        · rintro w' ⟨s0, s1⟩
                          go_simp
                          with_reducible rfl
                        rotate_left
                        · simp only [Act.put, List.setIfInBounds_toArray, List.set_cons_zero, List.set_cons_succ, i64_w, i32_w]
                          rfl
                        refine pure_ (i := 7) (N := (some 120)) (v := ?_) (a' := ?_) #[true, true, true, true, true, true, true, true, false, false, false, false, false, false, false, false, false] rfl rfl (any_of HT_.out (by kernel_rfl)) (fun _ _ _ h => h) (Or.inl ⟨by rfl, ?_⟩) ?_ ?_
                        rotate_left
                        · intro w'
                          go_simp
                          with_reducible rfl
                        rotate_left
                        · simp only [Act.put, List.setIfInBounds_toArray, List.set_cons_zero, List.set_cons_succ, i64_w, i32_w]
                          rfl
                        refine pure_ (i := 8) (N := (some 121)) (v := ?_) (a' := ?_) #[true, true, true, true, true, true, true, true, true, false, false, false, false, false, false, false, false] rfl rfl (any_of HT_.out (by kernel_rfl)) (fun _ _ _ h => h) (Or.inl ⟨by rfl, ?_⟩) ?_ ?_
                        rotate_left
                        · intro w'
                          go_simp
                          with_reducible rfl
                        rotate_left
                        · simp only [Act.put, List.setIfInBounds_toArray, List.set_cons_zero, List.set_cons_succ, i64_w, i32_w]
                          rfl
                        refine pure_ (i := 9) (N := (some 122)) (v := ?_) (a' := ?_) #[true, true, true, true, true, true, true, true, true, true, false, false, false, false, false, false, false] rfl rfl (any_of HT_.out (by kernel_rfl)) (fun _ _ _ h => h) (Or.inl ⟨by rfl, ?_⟩) ?_ ?_
                        rotate_left
                        · intro w'
                          go_simp
                          with_reducible rfl
                        rotate_left
                        · simp only [Act.put, List.setIfInBounds_toArray, List.set_cons_zero, List.set_cons_succ, i64_w, i32_w]
                          rfl
                        refine pure_ (i := 10) (N := (some 123)) (v := ?_) (a' := ?_) #[true, true, true, true, true, true, true, true, true, true, true, false, false, false, false, false, false] rfl rfl (any_of HT_.out (by kernel_rfl)) (fun _ _ _ h => h) (Or.inl ⟨by rfl, ?_⟩) ?_ ?_
                        rotate_left
                        · intro w'
                          go_simp
                          with_reducible rfl
                        rotate_left
                        · simp only [Act.put, List.setIfInBounds_toArray, List.set_cons_zero, List.set_cons_succ, i64_w, i32_w]
                          rfl
                        refine pure_ (i := 11) (N := (some 124)) (v := ?_) (a' := ?_) #[true, true, true, true, true, true, true, true, true, true, true, true, false, false, false, false, false] rfl rfl (any_of HT_.out (by kernel_rfl)) (fun _ _ _ h => h) (Or.inl ⟨by rfl, ?_⟩) ?_ ?_
                        rotate_left
                        · intro w'
                          go_simp
                          with_reducible rfl
                        rotate_left
                        · simp only [Act.put, List.setIfInBounds_toArray, List.set_cons_zero, List.set_cons_succ, i64_w, i32_w]
                          rfl
                        refine pure_ (i := 12) (N := (some 125)) (v := ?_) (a' := ?_) #[true, true, true, true, true, true, true, true, true, true, true, true, true, false, false, false, false] rfl rfl (any_of HT_.out (by kernel_rfl)) (fun _ _ _ h => h) (Or.inl ⟨by rfl, ?_⟩) ?_ ?_
                        rotate_left
                        · intro w'
                          go_simp
                          with_reducible rfl
                        rotate_left
                        · simp only [Act.put, List.setIfInBounds_toArray, List.set_cons_zero, List.set_cons_succ, i64_w, i32_w]
                          rfl
                        refine pure_ (i := 13) (N := (some 126)) (v := ?_) (a' := ?_) #[true, true, true, true, true, true, true, true, true, true, true, true, true, true, false, false, false] rfl rfl (any_of HT_.out (by kernel_rfl)) (fun _ _ _ h => h) (Or.inl ⟨by rfl, ?_⟩) ?_ ?_
                        rotate_left
                        · intro w'
                          go_simp
                          with_reducible rfl
                        rotate_left
                        · simp only [Act.put, List.setIfInBounds_toArray, List.set_cons_zero, List.set_cons_succ, i64_w, i32_w]
                          rfl
                        refine take_ (i := 14) (N := (some 127)) (v := ?_) (a' := ?_) #[true, true, true, true, true, true, true, true, true, true, true, true, true, true, true, false, false] rfl rfl (take_ofW HT_.out HW_.out (by kernel_rfl)) (fun _ _ _ h => h) (Or.inl ⟨by rfl, ?_⟩) hHeld ?_ ?_
                        rotate_left
                        · rintro w' ⟨s0, s1⟩
                          go_simp
                          with_reducible rfl
                        rotate_left
                        · simp only [Act.put, List.setIfInBounds_toArray, List.set_cons_zero, List.set_cons_succ, i64_w, i32_w]
                          rfl
                        refine pure_ (i := 15) (N := (some 128)) (v := ?_) (a' := ?_) #[true, true, true, true, true, true, true, true, true, true, true, true, true, true, true, true, false] rfl rfl (any_of HT_.out (by kernel_rfl)) (fun _ _ _ h => h) (Or.inl ⟨by rfl, ?_⟩) ?_ ?_
                        rotate_left
                        · intro w'
                          go_simp
                          with_reducible rfl
                        rotate_left
                        · simp only [Act.put, List.setIfInBounds_toArray, List.set_cons_zero, List.set_cons_succ, i64_w, i32_w]
                          rfl
                        refine pure_ (i := 16) (N := (some 13)) (v := ?_) (a' := ?_) #[true, true, true, true, true, true, true, true, true, true, true, true, true, true, true, true, true] rfl rfl (any_of HT_.out (by kernel_rfl)) (fun _ _ _ h => h) (Or.inl ⟨by rfl, ?_⟩) ?_ ?_
                        rotate_left
                        · intro w'
                          go_simp
                          with_reducible rfl
                        rotate_left
                        · simp only [Act.put, List.setIfInBounds_toArray, List.set_cons_zero, List.set_cons_succ, i64_w, i32_w]
                          rfl
                        refine done_ (done_of HT_.out (by kernel_rfl)) ?_
                        have hc1 := HW.out.cell (4 + 22) (by decide)
                        have hf1 := HW.out.frozen (4 + 22)
                        have hc2 := (HW.out.set (4 + 22) z).cell (4 + 23) (by decide)
                        have hf2 := (HW.out.set (4 + 22) z).frozen (4 + 23)
                        have hc3 := HW.out.cell (4 + 23) (by decide)
                        have hf3 := HW.out.frozen (4 + 23)
                        go_wp2
                        try simp only [hz]
                        have HW1 := Aside0.mk ((HW.out.set (4 + 22) z).set (4 + 23) z).drew
                        have HB1 := Aside0.mk (below_drew1 (below_set (j := 4 + 23) (v := .int .u64 (z : Int)) (below_set (j := 4 + 22) (v := .int .u64 (z : Int)) HB.out hg) hg))
                        go_roundg 0
                        case measure => have := HI.out; omega
                        case rel =>
                          refine ⟨2 + 2, _, rfl, ⟨by have := HI.out; omega⟩, HW1, ⟨fun y => ?_, fun y hy j hj => ?_, fun y hy hy4 => ?_⟩, HB1⟩
                          · show (if y = 4 + 23 then z else if y = 4 + 22 then z else W y) < _
                            have hz64 : z < 18446744073709551616 := by
                              rw [HZ.out]
                              exact or_lt64 (upW_lt _ (hWb _) _) (upW_lt _ (hWb _) _)
                            split
                            · exact hz64
                            · split
                              · exact hz64
                              · exact HV.out.1 y
                          · show (if j * 4 + y = 4 + 23 then z else if j * 4 + y = 4 + 22 then z else W _) = _
                            rw [if_neg (by omega), if_neg (by omega)]
                            exact HV.out.2.1 y hy j hj
                          · show (if 24 + y = 4 + 23 then z else if 24 + y = 4 + 22 then z else W _) = _
                            by_cases e1 : y = 3
                            · subst e1
                              rw [if_pos (by decide)]
                              exact HZ.out
                            · by_cases e2 : y = 2
                              · subst e2
                                rw [if_neg (by decide), if_pos (by decide)]
                                exact HZ.out
                              · rw [if_neg (by omega), if_neg (by omega)]
                                exact HV.out.2.2 y (by omega) hy4
            · go_wp2
              go_end0
              exact ⟨rfl, ⟨W, HW.out, HV.out.1, HV.out.2.1, fun x hx => HV.out.2.2 x hx hx⟩, HB.out⟩

end Go.Proofs.YtpeikjnkbjabpaaDoor.N
