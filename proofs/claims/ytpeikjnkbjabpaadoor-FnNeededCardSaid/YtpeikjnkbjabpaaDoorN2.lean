-- laid by xprint.py (a program of this session over the kit's print); Lean checks it
import Derived.Test.YtpeikjnkbjabpaaDoorN0
import Derived.Test.YtpeikjnkbjabpaaDoorN1
namespace Go.Proofs.YtpeikjnkbjabpaaDoor.N
open Go.RowKit Go.Proofs.YtpeikjnkbjabpaaDoorW.PrintWords Go.Proofs.YtpeikjnkbjabpaaDoorW.PrintLast Go.Proofs.YtpeikjnkbjabpaaDoorW.PrintMore
attribute [local go_sem] max2_int min2_int max_two min_two max_three min_three max_four min_four   -- for this text's walks alone
set_option linter.unusedVariables false
set_option linter.unusedSimpArgs false

/-! ### reedsolomon_errorBitfield8_isNeeded: function 48 (given) -/
def reedsolomon_errorBitfield8_isNeeded.T3 : Bool × List (List Nat × List Nat) := (true, [([], []), ([], []), ([1], [1]), ([], []), ([3], [3]), ([0], [0]), ([5], [5]), ([6, 2], [2, 6]), ([7, 4], [4, 7]), ([8], [8]), ([], []), ([10], [10]), ([11], [11]), ([9, 12], [9, 12]), ([13], [13]), ([14, 0, 1, 2, 3, 4, 5, 6, 7, 8, 9, 10, 11, 12, 13, 14], [14])])
def reedsolomon_errorBitfield8_isNeeded.B3 : List Nat := [0, 0, 2, 0, 8, 1, 33, 103, 255, 511, 0, 1024, 3072, 8191, 16383, 32767]
theorem reedsolomon_errorBitfield8_isNeeded.tab3 : rtab .any (opsOf Tryd.f48 3) = reedsolomon_errorBitfield8_isNeeded.T3 := by kernel_rfl
theorem reedsolomon_errorBitfield8_isNeeded.bits3 : waitsOk reedsolomon_errorBitfield8_isNeeded.T3.2 reedsolomon_errorBitfield8_isNeeded.B3 = true := by kernel_rfl
set_option maxHeartbeats 8000000 in
set_option maxRecDepth 100000 in
theorem reedsolomon_errorBitfield8_isNeeded.high (g : Nat) (lv bit : Int) (d1 : decide (8 ≤ lv) = true) (w0 w : World) (hB : Below w0.heap.size w0 w) :
    Calls Tryd.prog 48 #[.pointer (some ⟨g, 0, none⟩), .int .i64 lv, .int .i64 bit] w fun e w' => e = .returned (.bool true) ∧ Below w0.heap.size w0 w' := by
  go_enter Tryd.func48, Tryd.ntmps48
  go_wp2
  go_ret
  exact ⟨rfl, hB⟩
set_option maxHeartbeats 8000000 in
set_option maxRecDepth 100000 in
theorem reedsolomon_errorBitfield8_isNeeded.low (g : Nat) (lv bit : Int) (d1 : decide (8 ≤ lv) = false) (d2 : decide (lv ≤ 0) = true) (w0 w : World) (hB : Below w0.heap.size w0 w) :
    Calls Tryd.prog 48 #[.pointer (some ⟨g, 0, none⟩), .int .i64 lv, .int .i64 bit] w fun e w' => e = .returned (.bool true) ∧ Below w0.heap.size w0 w' := by
  go_enter Tryd.func48, Tryd.ntmps48
  go_wp2
  go_ret
  exact ⟨rfl, hB⟩
set_option maxHeartbeats 8000000 in
set_option maxRecDepth 100000 in
theorem reedsolomon_errorBitfield8_isNeeded.core (g : Nat) (W : Nat → Nat) (lv : Int) (m q r b p v : Nat) (d1 : decide (8 ≤ lv) = false) (d2 : decide (lv ≤ 0) = false) (hm : m < 7) (e0 : wrap64 (lv - 1) = (m : Int)) (hq4 : q < 4) (e1 : wrap64 ((b : Int) / 64) = (q : Int)) (e2 : bits .and .i64 (b : Int) 63 = (r : Int)) (hr : r < 64) (e3 : IntKind.u64.wrap (2 ^ r) = (p : Int)) (e4 : bits .and .u64 ((W (m * 4 + q) : Nat) : Int) (p : Int) = (v : Int)) (w0 w : World) (hW : Wd w g W) (hB : Below w0.heap.size w0 w) :
    Calls Tryd.prog 48 #[.pointer (some ⟨g, 0, none⟩), .int .i64 lv, .int .i64 (b : Int)] w fun e w' => e = .returned (.bool ((0 : Int) != (v : Int))) ∧ Below w0.heap.size w0 w' := by
  have hu60 := Tryd.underlying60
  have hu61 := Tryd.underlying61
  have hu62 := Tryd.underlying62
  have hu63 := Tryd.underlying63
  have HW := Aside0.mk hW
  have HB := Aside0.mk hB
  have hq4' : ((q : Int) < 4) = True := eq_true (by omega)
  have hm4' : ((m : Int) < 7) = True := eq_true (by omega)
  have hr0 : ((r : Int) < 0) = False := eq_false (by omega)
  clear hW hB
  go_enter Tryd.func48, Tryd.ntmps48
  go_wp2
  refine start_ (n := 16) (S := fun w' => w'.cell? ⟨g, m * 4 + q, none⟩ = some (.int .u64 ((W (m * 4 + q) : Nat) : Int))) (ds := []) #[false, false, false, false, false, false, false, false, false, false, false, false, false, false, false, false] (by kernel_rfl) rfl rfl (HW.out.drew.cell _ (by omega)) (fun hHeld => ?_)
  refine with_tabW reedsolomon_errorBitfield8_isNeeded.tab3 reedsolomon_errorBitfield8_isNeeded.bits3 (fun HT_ HW_ => ?_)
  refine pure_ (i := 0) (N := (some 13)) (v := ?_) (a' := ?_) #[true, false, false, false, false, false, false, false, false, false, false, false, false, false, false, false] rfl rfl (any_of HT_.out (by kernel_rfl)) (fun _ _ _ h => h) (Or.inl ⟨by rfl, ?_⟩) ?_ ?_
  rotate_left
  · intro w'
    go_simp
    with_reducible rfl
  rotate_left
  · simp only [Act.put, List.setIfInBounds_toArray, List.set_cons_zero, List.set_cons_succ, i64_w, i32_w]
    rfl
  refine pure_ (i := 1) (N := (some 14)) (v := ?_) (a' := ?_) #[true, true, false, false, false, false, false, false, false, false, false, false, false, false, false, false] rfl rfl (any_of HT_.out (by kernel_rfl)) (fun _ _ _ h => h) (Or.inl ⟨by rfl, ?_⟩) ?_ ?_
  rotate_left
  · intro w'
    go_simp
    with_reducible rfl
  rotate_left
  · simp only [Act.put, List.setIfInBounds_toArray, List.set_cons_zero, List.set_cons_succ, i64_w, i32_w]
    rfl
  refine pure_ (i := 2) (N := (some 15)) (v := ?_) (a' := ?_) #[true, true, true, false, false, false, false, false, false, false, false, false, false, false, false, false] rfl rfl (any_of HT_.out (by kernel_rfl)) (fun _ _ _ h => h) (Or.inl ⟨by rfl, ?_⟩) ?_ ?_
  rotate_left
  · intro w'
    go_simp
    with_reducible rfl
  rotate_left
  · simp only [Act.put, List.setIfInBounds_toArray, List.set_cons_zero, List.set_cons_succ, i64_w, i32_w]
    rfl
  refine pure_ (i := 3) (N := (some 16)) (v := ?_) (a' := ?_) #[true, true, true, true, false, false, false, false, false, false, false, false, false, false, false, false] rfl rfl (any_of HT_.out (by kernel_rfl)) (fun _ _ _ h => h) (Or.inl ⟨by rfl, ?_⟩) ?_ ?_
  rotate_left
  · intro w'
    go_simp
    with_reducible rfl
  rotate_left
  · simp only [Act.put, List.setIfInBounds_toArray, List.set_cons_zero, List.set_cons_succ, i64_w, i32_w]
    rfl
  refine pure_ (i := 4) (N := (some 17)) (v := ?_) (a' := ?_) #[true, true, true, true, true, false, false, false, false, false, false, false, false, false, false, false] rfl rfl (any_of HT_.out (by kernel_rfl)) (fun _ _ _ h => h) (Or.inl ⟨by rfl, ?_⟩) ?_ ?_
  rotate_left
  · intro w'
    go_simp
    with_reducible rfl
  rotate_left
  · simp only [Act.put, List.setIfInBounds_toArray, List.set_cons_zero, List.set_cons_succ, i64_w, i32_w]
    rfl
  refine pure_ (i := 5) (N := (some 18)) (v := ?_) (a' := ?_) #[true, true, true, true, true, true, false, false, false, false, false, false, false, false, false, false] rfl rfl (any_of HT_.out (by kernel_rfl)) (fun _ _ _ h => h) (Or.inl ⟨by rfl, ?_⟩) ?_ ?_
  rotate_left
  · intro w'
    go_simp
    with_reducible rfl
  rotate_left
  · simp only [Act.put, List.setIfInBounds_toArray, List.set_cons_zero, List.set_cons_succ, i64_w, i32_w]
    rfl
  refine pure_ (i := 6) (N := (some 19)) (v := ?_) (a' := ?_) #[true, true, true, true, true, true, true, false, false, false, false, false, false, false, false, false] rfl rfl (any_of HT_.out (by kernel_rfl)) (fun _ _ _ h => h) (Or.inl ⟨by rfl, ?_⟩) ?_ ?_
  rotate_left
  · intro w'
    go_simp
    with_reducible rfl
  rotate_left
  · simp only [Act.put, List.setIfInBounds_toArray, List.set_cons_zero, List.set_cons_succ, i64_w, i32_w]
    rfl
  refine pure_ (i := 7) (N := (some 20)) (v := ?_) (a' := ?_) #[true, true, true, true, true, true, true, true, false, false, false, false, false, false, false, false] rfl rfl (any_of HT_.out (by kernel_rfl)) (fun _ _ _ h => h) (Or.inl ⟨by rfl, ?_⟩) ?_ ?_
  rotate_left
  · intro w'
    go_simp
    with_reducible rfl
  rotate_left
  · simp only [Act.put, List.setIfInBounds_toArray, List.set_cons_zero, List.set_cons_succ, i64_w, i32_w]
    rfl
  refine pure_ (i := 8) (N := (some 21)) (v := ?_) (a' := ?_) #[true, true, true, true, true, true, true, true, true, false, false, false, false, false, false, false] rfl rfl (any_of HT_.out (by kernel_rfl)) (fun _ _ _ h => h) (Or.inl ⟨by rfl, ?_⟩) ?_ ?_
  rotate_left
  · intro w'
    go_simp
    with_reducible rfl
  rotate_left
  · simp only [Act.put, List.setIfInBounds_toArray, List.set_cons_zero, List.set_cons_succ, i64_w, i32_w]
    rfl
  refine take_ (i := 9) (N := (some 22)) (v := ?_) (a' := ?_) #[true, true, true, true, true, true, true, true, true, true, false, false, false, false, false, false] rfl rfl (take_ofW HT_.out HW_.out (by kernel_rfl)) (fun _ _ _ h => h) (Or.inl ⟨by rfl, ?_⟩) hHeld ?_ ?_
  rotate_left
  · intro w' s0
    go_simp
    with_reducible rfl
  rotate_left
  · simp only [Act.put, List.setIfInBounds_toArray, List.set_cons_zero, List.set_cons_succ, i64_w, i32_w]
    rfl
  refine pure_ (i := 10) (N := (some 23)) (v := ?_) (a' := ?_) #[true, true, true, true, true, true, true, true, true, true, true, false, false, false, false, false] rfl rfl (any_of HT_.out (by kernel_rfl)) (fun _ _ _ h => h) (Or.inl ⟨by rfl, ?_⟩) ?_ ?_
  rotate_left
  · intro w'
    go_simp
    with_reducible rfl
  rotate_left
  · simp only [Act.put, List.setIfInBounds_toArray, List.set_cons_zero, List.set_cons_succ, i64_w, i32_w]
    rfl
  refine pure_ (i := 11) (N := (some 24)) (v := ?_) (a' := ?_) #[true, true, true, true, true, true, true, true, true, true, true, true, false, false, false, false] rfl rfl (any_of HT_.out (by kernel_rfl)) (fun _ _ _ h => h) (Or.inl ⟨by rfl, ?_⟩) ?_ ?_
  rotate_left
  · intro w'
    go_simp
    with_reducible rfl
  rotate_left
  · simp only [Act.put, List.setIfInBounds_toArray, List.set_cons_zero, List.set_cons_succ, i64_w, i32_w]
    rfl
  refine pure_ (i := 12) (N := (some 25)) (v := ?_) (a' := ?_) #[true, true, true, true, true, true, true, true, true, true, true, true, true, false, false, false] rfl rfl (any_of HT_.out (by kernel_rfl)) (fun _ _ _ h => h) (Or.inl ⟨by rfl, ?_⟩) ?_ ?_
  rotate_left
  · intro w'
    go_simp
    with_reducible rfl
  rotate_left
  · simp only [Act.put, List.setIfInBounds_toArray, List.set_cons_zero, List.set_cons_succ, i64_w, i32_w]
    rfl
  refine pure_ (i := 13) (N := (some 26)) (v := ?_) (a' := ?_) #[true, true, true, true, true, true, true, true, true, true, true, true, true, true, false, false] rfl rfl (any_of HT_.out (by kernel_rfl)) (fun _ _ _ h => h) (Or.inl ⟨by rfl, ?_⟩) ?_ ?_
  rotate_left
  · intro w'
    go_simp
    with_reducible rfl
  rotate_left
  · simp only [Act.put, List.setIfInBounds_toArray, List.set_cons_zero, List.set_cons_succ, i64_w, i32_w]
    rfl
  refine pure_ (i := 14) (N := (some 27)) (v := ?_) (a' := ?_) #[true, true, true, true, true, true, true, true, true, true, true, true, true, true, true, false] rfl rfl (any_of HT_.out (by kernel_rfl)) (fun _ _ _ h => h) (Or.inl ⟨by rfl, ?_⟩) ?_ ?_
  rotate_left
  · intro w'
    go_simp
    with_reducible rfl
  rotate_left
  · simp only [Act.put, List.setIfInBounds_toArray, List.set_cons_zero, List.set_cons_succ, i64_w, i32_w]
    rfl
  refine pure_ (i := 15) (N := (some 6)) (v := ?_) (a' := ?_) #[true, true, true, true, true, true, true, true, true, true, true, true, true, true, true, true] rfl rfl (any_of HT_.out (by kernel_rfl)) (fun _ _ _ h => h) (Or.inl ⟨by rfl, ?_⟩) ?_ ?_
  rotate_left
  · intro w'
    go_simp
    with_reducible rfl
  rotate_left
  · simp only [Act.put, List.setIfInBounds_toArray, List.set_cons_zero, List.set_cons_succ, i64_w, i32_w]
    rfl
  refine done_ (done_of HT_.out (by kernel_rfl)) ?_
  go_wp2
  go_ret
  exact ⟨by first | rfl | (simp; done), below_drew1 HB.out⟩
theorem testBit_and_pow (x n : Nat) : ((0 : Int) != (((x &&& 2 ^ n : Nat)) : Int)) = x.testBit n := by
  rw [show x &&& 2 ^ n = (x.testBit n).toNat * 2 ^ n by
    apply Nat.eq_of_testBit_eq
    intro i
    rw [Nat.testBit_and, Nat.testBit_two_pow]
    by_cases e : n = i
    · subst e
      cases h : x.testBit n <;> simp
    · cases h : x.testBit n <;> simp [e, Nat.testBit_two_pow]]
  have hp : 0 < 2 ^ n := Nat.pow_pos (by decide)
  cases h : x.testBit n
  · simp
  · simp only [Bool.toNat_true, Nat.one_mul, bne_iff_ne, ne_eq]
    omega
def needW (W : Nat → Nat) (lv : Int) (b : Nat) : Bool := if 8 ≤ lv then true else if lv ≤ 0 then true else (W ((lv.toNat - 1) * 4 + b / 64)).testBit (b % 64)
theorem reedsolomon_errorBitfield8_isNeeded.calls (g : Nat) (W : Nat → Nat) (lv : Int) (b : Nat) (hb : b < 256) (w0 w : World) (hW : Wd w g W) (hWb : ∀ x, W x < 18446744073709551616) (hB : Below w0.heap.size w0 w) :
    Calls Tryd.prog 48 #[.pointer (some ⟨g, 0, none⟩), .int .i64 lv, .int .i64 (b : Int)] w fun e w' => e = .returned (.bool (needW W lv b)) ∧ Below w0.heap.size w0 w' := by
  unfold needW
  by_cases h1 : 8 ≤ lv
  · rw [if_pos h1]
    exact reedsolomon_errorBitfield8_isNeeded.high g lv b (decide_eq_true h1) w0 w hB
  · rw [if_neg h1]
    by_cases h2 : lv ≤ 0
    · rw [if_pos h2]
      exact reedsolomon_errorBitfield8_isNeeded.low g lv b (decide_eq_false h1) (decide_eq_true h2) w0 w hB
    · rw [if_neg h2, ← testBit_and_pow]
      refine reedsolomon_errorBitfield8_isNeeded.core g W lv (lv.toNat - 1) (b / 64) (b % 64) b (2 ^ (b % 64)) _ (decide_eq_false h1) (decide_eq_false h2) (by omega) (by unfold wrap64; omega) (by omega) (by unfold wrap64; omega) (and63 b hb) (by omega) (shl1 _ (by omega)) (u64_and_nat _ _ (hWb _) (pow_lt64 _ (by omega))) w0 w hW hB

/-! ### reedsolomon_DoorNeeded: function 33 (given) -/
def setW (W : Nat → Nat) (n : Nat) : Nat → Nat := fun x => if x = n / 64 then W (n / 64) ||| 2 ^ (n % 64) else W x
def wordsOf (l : List Int) : Nat → Nat := l.foldl (fun W x => setW W x.toNat) (fun _ => 0)
def levW (W : Nat → Nat) (lv b : Nat) : Nat := if lv ≤ 6 then upW lv (W (b / 64)) else upW 6 (W (b / 64 / 2 * 2)) ||| upW 6 (W (b / 64 / 2 * 2 + 1))
def reedsolomon_DoorNeeded.f (l : List Int) (lv b : Int) : Option Bool :=
  if l.length ≤ 1000 ∧ (∀ x ∈ l, 0 ≤ x ∧ x < 256) ∧ 0 ≤ b ∧ b < 256 then some (if 8 ≤ lv then true else if lv ≤ 0 then true else (levW (wordsOf l) lv.toNat b.toNat).testBit (b.toNat % 64)) else none
theorem setW_lt {W : Nat → Nat} (h : ∀ x, W x < 18446744073709551616) (n : Nat) : ∀ x, setW W n x < 18446744073709551616 := by
  intro x
  unfold setW
  split
  · exact or_lt64 (h _) (pow_lt64 _ (by omega))
  · exact h x
theorem wordsOf_lt (l : List Int) : ∀ x, wordsOf l x < 18446744073709551616 := by
  have : ∀ (l : List Int) (W : Nat → Nat), (∀ x, W x < 18446744073709551616) → ∀ x, l.foldl (fun W x => setW W x.toNat) W x < 18446744073709551616 := by
    intro l
    induction l with
    | nil => exact fun W h => h
    | cons y l ih => exact fun W h => ih _ (setW_lt h _)
  exact this l _ (fun _ => by decide)
theorem wordsOf_take (l : List Int) (i : Nat) (hi : i < l.length) : wordsOf (l.take (i + 1)) = setW (wordsOf (l.take i)) (rd l (i : Int)).toNat := by
  unfold wordsOf
  rw [List.take_succ_eq_append_getElem hi, List.foldl_append]
  show setW _ _ = setW _ _
  congr 2
  show _ = l.getD ((i : Int)).toNat 0
  rw [Int.toNat_natCast, List.getD_eq_getElem?_getD, List.getElem?_eq_getElem hi]
  rfl
set_option maxHeartbeats 8000000 in
set_option maxRecDepth 100000 in
theorem reedsolomon_DoorNeeded.core (A0 : Option Addr) (c0 : Nat) (l0 : List Int) (lv : Int) (b : Nat) (hn : l0.length ≤ 1000) (hl : ∀ x ∈ l0, 0 ≤ x ∧ x < 256) (hb : b < 256) (r : Bool) (w : World) (hGM : GlobM w) (hr0 : Kd.C (Kd.int .i64) w A0 l0.length l0) (hc0 : l0.length ≤ c0) (hr : r = (if 8 ≤ lv then true else if lv ≤ 0 then true else (levW (wordsOf l0) lv.toNat b).testBit (b % 64))) :
    Calls Tryd.prog 33 #[.slice A0 l0.length c0, .int .i64 lv, .int .i64 (b : Int)] w fun e w' => e = .returned (.bool r) ∧ Below w.heap.size w w' := by
  have hu63 := Tryd.underlying63
  have HR := Aside0.mk hr0
  have HC0 := Aside0.mk hc0
  have HRR := Aside0.mk hr
  have HB := Aside0.mk (Below.refl w.heap.size w)
  clear hr0 hc0 hr
  go_enter Tryd.func33, Tryd.ntmps33
  go_wp2_with (first | ((with_reducible refine gate_dst (N := 7) rfl ?_); refine box_event ?hg (N := 7) ?hd (cs := wordsV (fun _ => 0)) (t := 63) ?hr ?_; (case hd => rfl); (case hg => rfl); (case hr => first | (go_simp; done) | (go_simp; rfl)); intro g hg w4 hbox hb; (have HW := Aside0.mk (Wd.mk (W := fun _ => 0) hbox)); (have GB := Aside0.mk hg); (have HB1 := Aside0.mk (below_step HB.out hb)); clear hbox hb hg HB; have HB := HB1; clear HB1))
  have hge : w.heap.size ≤ g := by have := GB.out; omega
  have HG := Aside0.mk hge
  clear hge GB
  go_loopg [12] l0.length (fun kq v12 w' => ∃ i : Nat, v12 = .int .i64 (i : Int) ∧ Aside0 (i + kq = l0.length) ∧ Aside0 (Wd w' g (wordsOf (l0.take i))) ∧ Aside0 (Below w.heap.size w w'))
  case atStart => exact ⟨0, rfl, ⟨by omega⟩, HW, HB⟩
  case round =>
    clear HW HB
    obtain ⟨i, rfl, HI, HW, HB⟩ := hrel
    by_cases c1 : i < l0.length
    · have hlt : (i : Int) < (l0.length : Int) := by omega
      obtain ⟨ad, hA, hx⟩ := Kd.at_int (Kd.C_below HR.out HB.out) (i : Int) (by omega) hlt
      cases hA
      obtain ⟨n, HN, hn⟩ : ∃ n : Nat, Aside0 (rd l0 (i : Int) = (n : Int)) ∧ n < 256 := by
        have hm : rd l0 (i : Int) ∈ l0 := by
          show l0.getD ((i : Int)).toNat 0 ∈ l0
          rw [Int.toNat_natCast, List.getD_eq_getElem?_getD, List.getElem?_eq_getElem c1]
          exact List.getElem_mem c1
        have := hl _ hm
        exact ⟨(rd l0 (i : Int)).toNat, ⟨by omega⟩, by omega⟩
      rw [HN.out, Int.toNat_natCast] at hx
      have hmd := decide_eq_true hlt
      have hml : decide (i < l0.length) = true := decide_eq_true c1
      have hlt' := eq_true hlt
      clear hlt
      have hi1 : wrap64 ((i : Int) + 1) = ((i + 1 : Nat) : Int) := by unfold wrap64; omega
      go_wp2_with (first | ((with_reducible refine gate_callee (f := 46) rfl ?_); refine goesL_ (some 17) rfl rfl Tryd.func46 (by kernel_rfl) rfl #[.pointer (some ⟨g, 0, none⟩), .int .i64 (n : Int)] rfl (by (try simp only [List.map_toArray, List.map_cons, List.map_nil]); first | done | rfl) ?_; (with_reducible refine (reedsolomon_errorBitfield8_set.calls g _ n hn w _ HW.out (wordsOf_lt _) HG.out HB.out).mono ?_); rintro e w6 ⟨rfl, ho, hb⟩; refine ⟨_, rfl, ?_⟩; (have HW1 := Aside0.mk ho); (have HB1 := Aside0.mk hb); clear ho hb HW HB))
      go_roundg (l0.length - i - 1)
      case measure => have := HI.out; omega
      case rel => exact ⟨i + 1, by first | rfl | simp, ⟨by omega⟩, ⟨by rw [wordsOf_take l0 i c1, HN.out, Int.toNat_natCast]; exact HW1.out⟩, HB1⟩
    · have hmd := decide_eq_false (show ¬ (i : Int) < (l0.length : Int) by omega)
      have hml : decide (i < l0.length) = false := decide_eq_false c1
      have hil : i = l0.length := by have := HI.out; omega
      subst hil
      rw [List.take_length] at HW
      go_wp2_with (first | ((with_reducible refine gate_callee (f := 47) rfl ?_); refine goesL_ (some 19) rfl rfl Tryd.func47 (by kernel_rfl) rfl #[.pointer (some ⟨g, 0, none⟩)] rfl (by (try simp only [List.map_toArray, List.map_cons, List.map_nil]); first | done | rfl) ?_; (with_reducible refine (reedsolomon_errorBitfield8_prepare.calls g _ w _ hGM HW.out (wordsOf_lt _) HG.out HB.out).mono ?_); rintro e w6 ⟨rfl, ho, hb⟩; refine ⟨_, rfl, ?_⟩; (obtain ⟨W1, hW1⟩ := ho); (have HW1 := Aside0.mk hW1); (have HB1 := Aside0.mk hb); clear hW1 hb HW HB) | ((with_reducible refine gate_callee (f := 48) rfl ?_); refine goesL_ (some 22) rfl rfl Tryd.func48 (by kernel_rfl) rfl #[.pointer (some ⟨g, 0, none⟩), .int .i64 lv, .int .i64 (b : Int)] rfl (by (try simp only [List.map_toArray, List.map_cons, List.map_nil]); first | done | rfl) ?_; (with_reducible refine (reedsolomon_errorBitfield8_isNeeded.calls g W1 lv b hb w _ HW1.out.1 HW1.out.2.1 HB1.out).mono ?_); rintro e w7 ⟨rfl, hb⟩; refine ⟨_, rfl, ?_⟩; (have HB2 := Aside0.mk hb); clear hb HB1))
      go_ret
      refine ⟨?_, HB2.out⟩
      rw [HRR.out]
      congr 2
      unfold needW levW
      split
      · rfl
      · split
        · rfl
        · rename_i h1 h2
          have hx := HW1.out.2.2.1 (b / 64) (by omega) (lv.toNat - 1)
          have hy := HW1.out.2.2.2 (b / 64) (by omega)
          by_cases h3 : lv.toNat ≤ 6
          · rw [if_pos h3, hx (by omega), show lv.toNat - 1 + 1 = lv.toNat by omega]
            rfl
          · rw [if_neg h3, ← hy, show (lv.toNat - 1) * 4 = 24 by omega]
            rfl
theorem reedsolomon_DoorNeeded.calls (A0 : Option Addr) (c0 : Nat) (l0 : List Int) (a1 a2 : Int) (r : Bool) (w : World) (hGM : GlobM w) (hr0 : Kd.C (Kd.int .i64) w A0 l0.length l0) (hc0 : l0.length ≤ c0) (h : reedsolomon_DoorNeeded.f l0 a1 a2 = some r) :
    Calls Tryd.prog 33 #[.slice A0 l0.length c0, .int .i64 a1, .int .i64 a2] w fun e w' => e = .returned (.bool r) ∧ Below w.heap.size w w' := by
  unfold reedsolomon_DoorNeeded.f at h
  split at h
  · rename_i hc
    obtain ⟨h1, h2, h3, h4⟩ := hc
    obtain ⟨b, rfl⟩ := Int.eq_ofNat_of_zero_le h3
    rw [Int.toNat_natCast] at h
    exact reedsolomon_DoorNeeded.core A0 c0 l0 a1 b h1 h2 (by omega) r w hGM hr0 hc0 (Option.some.inj h).symm
  · cases h

/-! ### impl_Needed: function 12 -/
mutual
def impl_Needed.j0 : Nat → List Int → Int → Int → Bool → Option (Bool)
  | 0, _, _, _, _ => none
  | k + 1, x0, x1, x2, x14 => if x14 = true then (some false) else (impl_Needed.l0 k x0 x1 x2 x0 (x0.length : Int) 0)
def impl_Needed.l0 : Nat → List Int → Int → Int → List Int → Int → Int → Option (Bool)
  | 0, _, _, _, _, _, _ => none
  | k + 1, x0, x1, x2, x15, x16, x17 => if x17 < x16 then (if 0 ≤ x17 then (if x17 < (x15.length : Int) then (if (rd x15 x17) < 0 then (some false) else (impl_Needed.l0 k x0 x1 x2 x15 x16 (wrap64 (x17 + 1)))) else (none)) else (none)) else ((reedsolomon_DoorNeeded.f x0 x1 x2).bind fun t102 => (some t102))
end
def impl_Needed.f (k : Nat) (l0 : List Int) (a1 : Int) (a2 : Int) : Option (Bool) := if a2 < 0 then (impl_Needed.j0 k l0 a1 a2 true) else (impl_Needed.j0 k l0 a1 a2 (decide (a2 > 255)))
theorem impl_Needed.mono_l : ∀ k, (∀ y0 y1 y2 y3, LeO (impl_Needed.j0 k y0 y1 y2 y3) (impl_Needed.j0 (k + 1) y0 y1 y2 y3)) ∧ (∀ y0 y1 y2 y3 y4 y5, LeO (impl_Needed.l0 k y0 y1 y2 y3 y4 y5) (impl_Needed.l0 (k + 1) y0 y1 y2 y3 y4 y5))
  | 0 => ⟨fun _ _ _ _ r h => by simp [impl_Needed.j0] at h, fun _ _ _ _ _ _ r h => by simp [impl_Needed.l0] at h⟩
  | k + 1 => by
    obtain ⟨ih0, ih1⟩ := impl_Needed.mono_l k
    refine ⟨?_, ?_⟩
    · intro y0 y1 y2 y3
      unfold impl_Needed.j0
      repeat' first
      | (with_reducible exact ih0 _ _ _ _)
      | (with_reducible exact ih1 _ _ _ _ _ _)
      | (with_reducible exact LeO.refl _)
      | (with_reducible exact LeO.none _)
      | (with_reducible refine LeO.ite ?_ ?_)
      | (with_reducible refine LeO.bind ?_ (fun _ => ?_))
      | exact ih0 _ _ _ _
      | exact ih1 _ _ _ _ _ _
      | exact LeO.none _
      | refine LeO.ite ?_ ?_
      | refine LeO.bind ?_ (fun _ => ?_)
    · intro y0 y1 y2 y3 y4 y5
      unfold impl_Needed.l0
      repeat' first
      | (with_reducible exact ih0 _ _ _ _)
      | (with_reducible exact ih1 _ _ _ _ _ _)
      | (with_reducible exact LeO.refl _)
      | (with_reducible exact LeO.none _)
      | (with_reducible refine LeO.ite ?_ ?_)
      | (with_reducible refine LeO.bind ?_ (fun _ => ?_))
      | exact ih0 _ _ _ _
      | exact ih1 _ _ _ _ _ _
      | exact LeO.none _
      | refine LeO.ite ?_ ?_
      | refine LeO.bind ?_ (fun _ => ?_)
theorem impl_Needed.mono : ∀ a0 a1 a2 k, LeO (impl_Needed.f k a0 a1 a2) (impl_Needed.f (k + 1) a0 a1 a2) := by
  intro a0 a1 a2 k
  obtain ⟨ih0, ih1⟩ := impl_Needed.mono_l k
  unfold impl_Needed.f
  repeat' first
      | (with_reducible exact ih0 _ _ _ _)
      | (with_reducible exact ih1 _ _ _ _ _ _)
      | (with_reducible exact LeO.refl _)
      | (with_reducible exact LeO.none _)
      | (with_reducible refine LeO.ite ?_ ?_)
      | (with_reducible refine LeO.bind ?_ (fun _ => ?_))
      | exact ih0 _ _ _ _
      | exact ih1 _ _ _ _ _ _
      | exact LeO.none _
      | refine LeO.ite ?_ ?_
      | refine LeO.bind ?_ (fun _ => ?_)
set_option maxHeartbeats 8000000 in
set_option maxRecDepth 100000 in
theorem impl_Needed.calls (k : Nat) (A0 : Option Addr) (c0 : Nat) (l0 : List Int) (a1 : Int) (a2 : Int) (r : Bool) (w : World) (hGM : GlobM w) (hr0 : Kd.C (Kd.int .i64) w A0 l0.length l0) (hc0 : l0.length ≤ c0) (h : impl_Needed.f k l0 a1 a2 = some r) :
    Calls Tryd.prog 12 #[.slice A0 l0.length c0, .int .i64 a1, .int .i64 a2] w fun e w' => e = .returned (.bool r) ∧ Below w.heap.size w w' := by
  have HR0 := Aside0.mk hr0
  have HC0 := Aside0.mk hc0
  clear hr0 hc0
  have HB := Aside0.mk (Below.refl w.heap.size w)
  have H : (if a2 < 0 then (impl_Needed.j0 k l0 a1 a2 true) else (impl_Needed.j0 k l0 a1 a2 (decide (a2 > 255)))) = some r := h
  clear h
  have HC4 := Aside0.mk H
  clear H
  go_enter Tryd.func12, Tryd.ntmps12
  go_upto_region 1 with (fail)
  go_cut [14] (fun v14 wc => ∃ (kq : Nat) (x14_3 : Bool), v14 = .bool x14_3 ∧ Aside0 (impl_Needed.j0 kq l0 a1 a2 x14_3 = some r) ∧ Aside0 (kq ≤ k) ∧ Aside0 (Below w.heap.size w wc))
  case first =>
    have H := HC4.out
    clear HC4
    by_cases c5 : a2 < 0
    · rw [if_pos c5] at H
      have c5b0 : decide (a2 < 0) = true := decide_eq_true c5
      clear c5
      (first | rw [c5b0] | (simp only [i64_w, i32_w]; rw [c5b0]) | skip)
      have H' := Aside0.mk H
      clear H
      go_wp2
      go_meet
      case rel => exact ⟨_, (true), (by first | rfl | (simp; done) | (simp [*]; done)), H', ⟨by first | omega | exact Nat.le_refl _⟩, ⟨by repeat (first | (with_reducible first | exact HB.out | apply below_alloc | apply pw_below_drewN | apply below_drew1) | exact HB.out)⟩⟩
    · rw [if_neg c5] at H
      have c5b0 : decide (a2 < 0) = false := decide_eq_false c5
      clear c5
      (first | rw [c5b0] | (simp only [i64_w, i32_w]; rw [c5b0]) | skip)
      have H' := Aside0.mk H
      clear H
      go_wp2
      go_meet
      case rel => exact ⟨_, (decide (a2 > 255)), (by first | rfl | (simp; done) | (simp [*]; done)), H', ⟨by first | omega | exact Nat.le_refl _⟩, ⟨by repeat (first | (with_reducible first | exact HB.out | apply below_alloc | apply pw_below_drewN | apply below_drew1) | exact HB.out)⟩⟩
  case rest =>
    clear HC4
    try clear c1
    try clear p2
    try clear c5
    try clear c5b0
    obtain ⟨kq, x14_3, rfl, HA, HJ3, HB⟩ := hcut
    cases kq with
    | zero => exact absurd HA.out (by simp [impl_Needed.j0])
    | succ kj3 =>
      have H := HA.out
      clear HA
      simp only [impl_Needed.j0] at H
      by_cases c6 : x14_3 = true
      · subst c6
        have H1 : (some false) = some r := by rw [if_pos rfl] at H; exact H
        clear H
        have H := H1
        clear H1
        obtain rfl := Option.some.inj H
        go_wp2
        go_ret
        exact ⟨by first | rfl | (simp [errW_none, errW_some] <;> rfl) | (simp [*, errW_none, errW_some] <;> rfl), by repeat (first | (with_reducible first | exact HB.out | apply below_alloc | apply pw_below_drewN | apply below_drew1) | exact HB.out)⟩
      · replace c6 := Bool.eq_false_iff.mpr c6
        subst c6
        have H1 : (impl_Needed.l0 kj3 l0 a1 a2 l0 (l0.length : Int) 0) = some r := by rw [if_neg (show ¬ (false = true) by decide)] at H; exact H
        clear H
        have H := H1
        clear H1
        have H' := Aside0.mk H
        clear H
        go_wp2
        try simp only [Act.put, List.setIfInBounds_toArray, List.set_cons_zero, List.set_cons_succ]
        go_loopg [17] kj3 (fun kq v17 w' => ∃ (x17_2 : Int), v17 = .int .i64 x17_2 ∧ Aside0 (impl_Needed.l0 kq l0 a1 a2 l0 (l0.length : Int) x17_2 = some r) ∧ Aside0 (kq ≤ kj3) ∧ Aside0 (Below w.heap.size w w'))
        case atStart => exact ⟨(0), (by first | rfl | (simp; done) | (simp [*]; done)), H', ⟨Nat.le_refl _⟩, ⟨by repeat (first | (with_reducible first | exact HB.out | apply below_alloc | apply pw_below_drewN | apply below_drew1) | exact HB.out)⟩⟩
        case round =>
          clear H'
          try clear c1
          try clear p2
          try clear c5
          try clear c5b0
          try clear c6
          try clear p2
          obtain ⟨x17_2, rfl, HA, HK2, HB⟩ := hrel
          cases gk with
          | zero => exact absurd HA.out (by simp [impl_Needed.l0])
          | succ k2 =>
            have H := HA.out
            clear HA
            simp only [impl_Needed.l0] at H
            by_cases c7 : x17_2 < (l0.length : Int)
            · rw [if_pos c7] at H
              have c7b0 : decide (x17_2 < (l0.length : Int)) = true := decide_eq_true c7
              clear c7
              by_cases c8 : 0 ≤ x17_2
              · rw [if_pos c8] at H
                have c8b0 : decide (0 ≤ x17_2) = true := decide_eq_true c8
                clear c8
                by_cases c9 : x17_2 < (l0.length : Int)
                · rw [if_pos c9] at H
                  have c9b0 : decide (x17_2 < (l0.length : Int)) = true := decide_eq_true c9
                  clear c9
                  by_cases c10 : (rd l0 x17_2) < 0
                  · rw [if_pos c10] at H
                    have c10b0 : decide ((rd l0 x17_2) < 0) = true := decide_eq_true c10
                    clear c10
                    obtain rfl := Option.some.inj H
                    have p101 : 0 ≤ (x17_2 : Int) := of_decide_eq_true (by first | (with_reducible assumption) | assumption)
                    have q101 : x17_2 < (l0.length : Int) := of_decide_eq_true (by first | (with_reducible assumption) | assumption)
                    obtain ⟨ad101, e101, hx101_0⟩ := Kd.at_int HR0.out x17_2 p101 q101
                    cases e101
                    (try replace hx101_0 := (HB.out.cell (World.block_lt_of_cell? w _ hx101_0)).trans hx101_0)
                    replace p101 := eq_true p101
                    replace q101 := eq_true q101
                    go_wp2
                    go_ret
                    exact ⟨by first | rfl | (simp [errW_none, errW_some] <;> rfl) | (simp [*, errW_none, errW_some] <;> rfl), by repeat (first | (with_reducible first | exact HB.out | apply below_alloc | apply pw_below_drewN | apply below_drew1) | exact HB.out)⟩
                  · rw [if_neg c10] at H
                    have c10b0 : decide ((rd l0 x17_2) < 0) = false := decide_eq_false c10
                    clear c10
                    have H' := Aside0.mk H
                    clear H
                    have p101 : 0 ≤ (x17_2 : Int) := of_decide_eq_true (by first | (with_reducible assumption) | assumption)
                    have q101 : x17_2 < (l0.length : Int) := of_decide_eq_true (by first | (with_reducible assumption) | assumption)
                    obtain ⟨ad101, e101, hx101_0⟩ := Kd.at_int HR0.out x17_2 p101 q101
                    cases e101
                    (try replace hx101_0 := (HB.out.cell (World.block_lt_of_cell? w _ hx101_0)).trans hx101_0)
                    replace p101 := eq_true p101
                    replace q101 := eq_true q101
                    go_wp2
                    go_roundg k2
                    case measure => have := HJ3.out; have := HK2.out; omega
                    case rel => exact ⟨(wrap64 (x17_2 + 1)), (by first | rfl | (simp; done) | (simp [*]; done)), H', ⟨by have := HJ3.out; have := HK2.out; omega⟩, ⟨by repeat (first | (with_reducible first | exact HB.out | apply below_alloc | apply pw_below_drewN | apply below_drew1) | exact HB.out)⟩⟩
                · rw [if_neg c9] at H
                  exact absurd H (by simp)
              · rw [if_neg c8] at H
                exact absurd H (by simp)
            · rw [if_neg c7] at H
              have c7b0 : decide (x17_2 < (l0.length : Int)) = false := decide_eq_false c7
              clear c7
              replace H := Option.bind_eq_some_iff.mp H
              obtain ⟨t102, A110, H⟩ := H
              replace H : (some t102) = some r := H
              have A11 := Aside0.mk A110
              clear A110
              obtain rfl := Option.some.inj H
              go_wp2_with (first | ((with_reducible refine gate_callee (f := 33) rfl ?_); refine goesL_ (some 27) rfl rfl Tryd.func33 (by kernel_rfl) rfl #[.slice A0 l0.length c0, .int .i64 a1, .int .i64 a2] rfl (by (try simp only [List.map_toArray, List.map_cons, List.map_nil]); first | done | rfl | (simp only [List.length_drop, List.length_take]; rfl)) ?_; (with_reducible refine (reedsolomon_DoorNeeded.calls _ _ l0 a1 a2 t102 _ ?side3 ?side1 ?side2 A11.out).mono ?_); (case side1 => repeat (first | exact (Kd.C_below HR0.out HB.out) | (with_reducible refine Kd.C_alloc ?_ _) | (with_reducible refine Kd.C_drewN ?_ _) | (with_reducible refine Kd.C_drew ?_))); (case side2 => exact HC0.out); (case side3 => exact GlobM.below hGM (by repeat (first | (with_reducible first | exact HB.out | apply below_alloc | apply pw_below_drewN | apply below_drew1) | exact HB.out))); rintro e w12 ⟨rfl, hb⟩; refine ⟨_, rfl, ?_⟩; have n0_ := Aside0.mk (below_step (by repeat (first | (with_reducible first | exact HB.out | apply below_alloc | apply pw_below_drewN | apply below_drew1) | exact HB.out)) hb); clear HB; have HB := n0_; clear n0_; (try clear hb); (try clear hb2); (try clear hk); (try clear hi)))
              go_ret
              exact ⟨by first | rfl | (simp [errW_none, errW_some] <;> rfl) | (simp [*, errW_none, errW_some] <;> rfl), by repeat (first | (with_reducible first | exact HB.out | apply below_alloc | apply pw_below_drewN | apply below_drew1) | exact HB.out)⟩

end Go.Proofs.YtpeikjnkbjabpaaDoor.N
