-- laid by xprint.py (a program of this session over the kit's print); Lean checks it
import Derived.Test.YtpeikjnkbjabpaaH0
namespace Go.Proofs.Ytpeikjnkbjabpaa.H
open Go.RowKit Go.Proofs.YtpeikjnkbjabpaaW.PrintWords Go.Proofs.YtpeikjnkbjabpaaW.PrintLast Go.Proofs.YtpeikjnkbjabpaaW.PrintMore
attribute [local go_sem] max2_int min2_int max_two min_two max_three min_three max_four min_four   -- for this text's walks alone
set_option linter.unusedVariables false
set_option linter.unusedSimpArgs false

/-! ### reedsolomon_addMod8: function 33 -/
def reedsolomon_addMod8.f (a0 : Int) (a1 : Int) : Option (Int) := some ((IntKind.u64.wrap ((IntKind.u64.wrap ((IntKind.u64.wrap (a0)) + (IntKind.u64.wrap (a1)))) + ((IntKind.u64.wrap ((IntKind.u64.wrap (a0)) + (IntKind.u64.wrap (a1)))) / 256))) % 256)
set_option maxHeartbeats 8000000 in
set_option maxRecDepth 100000 in
theorem reedsolomon_addMod8.calls (a0 : Int) (a1 : Int) (r : Int) (w : World) (h : reedsolomon_addMod8.f a0 a1 = some r) :
    Calls Try.prog 33 #[.int .u8 a0, .int .u8 a1] w fun e w' => e = .returned (.int .u8 r) ∧ Drawn0 w w' := by
  have H : (some ((IntKind.u64.wrap ((IntKind.u64.wrap ((IntKind.u64.wrap (a0)) + (IntKind.u64.wrap (a1)))) + ((IntKind.u64.wrap ((IntKind.u64.wrap (a0)) + (IntKind.u64.wrap (a1)))) / 256))) % 256)) = some r := h
  clear h
  obtain rfl := Option.some.inj H
  go_enter Try.func33, Try.ntmps33
  go_wp2
  go_ret
  exact ⟨by first | rfl | (simp; done) | (simp [*]; done), by repeat (first | exact Drawn0.refl _ | apply Drawn0.step)⟩

/-! ### reedsolomon_subMod8: function 34 -/
def reedsolomon_subMod8.f (a0 : Int) (a1 : Int) : Option (Int) := some ((IntKind.u64.wrap ((IntKind.u64.wrap ((IntKind.u64.wrap (a0)) - (IntKind.u64.wrap (a1)))) + ((IntKind.u64.wrap ((IntKind.u64.wrap (a0)) - (IntKind.u64.wrap (a1)))) / 256))) % 256)
set_option maxHeartbeats 8000000 in
set_option maxRecDepth 100000 in
theorem reedsolomon_subMod8.calls (a0 : Int) (a1 : Int) (r : Int) (w : World) (h : reedsolomon_subMod8.f a0 a1 = some r) :
    Calls Try.prog 34 #[.int .u8 a0, .int .u8 a1] w fun e w' => e = .returned (.int .u8 r) ∧ Drawn0 w w' := by
  have H : (some ((IntKind.u64.wrap ((IntKind.u64.wrap ((IntKind.u64.wrap (a0)) - (IntKind.u64.wrap (a1)))) + ((IntKind.u64.wrap ((IntKind.u64.wrap (a0)) - (IntKind.u64.wrap (a1)))) / 256))) % 256)) = some r := h
  clear h
  obtain rfl := Option.some.inj H
  go_enter Try.func34, Try.ntmps34
  go_wp2
  go_ret
  exact ⟨by first | rfl | (simp; done) | (simp [*]; done), by repeat (first | exact Drawn0.refl _ | apply Drawn0.step)⟩

/-! ### reedsolomon_fwht2alt8: function 32 -/
def reedsolomon_fwht2alt8.f (a0 : Int) (a1 : Int) : Option (Int × Int) := (reedsolomon_addMod8.f a0 a1).bind fun t101 => ((reedsolomon_subMod8.f a0 a1).bind fun t102 => (some (t101, t102)))
set_option maxHeartbeats 8000000 in
set_option maxRecDepth 100000 in
theorem reedsolomon_fwht2alt8.calls (a0 : Int) (a1 : Int) (r1 : Int) (r2 : Int) (w : World) (h : reedsolomon_fwht2alt8.f a0 a1 = some (r1, r2)) :
    Calls Try.prog 32 #[.int .u8 a0, .int .u8 a1] w fun e w' => e = .returned (.tuple #[.int .u8 r1, .int .u8 r2]) ∧ Drawn0 w w' := by
  have H : ((reedsolomon_addMod8.f a0 a1).bind fun t101 => ((reedsolomon_subMod8.f a0 a1).bind fun t102 => (some (t101, t102)))) = some (r1, r2) := h
  clear h
  replace H := Option.bind_eq_some_iff.mp H
  obtain ⟨t101, A30, H⟩ := H
  replace H : ((reedsolomon_subMod8.f a0 a1).bind fun t102 => (some (t101, t102))) = some (r1, r2) := H
  have A3 := Aside0.mk A30
  clear A30
  replace H := Option.bind_eq_some_iff.mp H
  obtain ⟨t102, A40, H⟩ := H
  replace H : (some (t101, t102)) = some (r1, r2) := H
  have A4 := Aside0.mk A40
  clear A40
  simp only [Option.some.injEq, Prod.mk.injEq] at H
  obtain ⟨rfl, rfl⟩ := H
  go_enter Try.func32, Try.ntmps32
  go_wp2_with (first | ((with_reducible refine gate_callee (f := 33) rfl ?_); refine goesL_ (some 8) rfl rfl Try.func33 (by kernel_rfl) rfl #[.int .u8 a0, .int .u8 a1] rfl (by (try simp only [List.map_toArray, List.map_cons, List.map_nil]); first | done | rfl | (simp only [List.length_drop, List.length_take]; rfl)) ?_; (with_reducible refine (reedsolomon_addMod8.calls a0 a1 t101 _ A3.out).mono ?_); rintro e w' ⟨rfl, ⟨nd, rfl⟩⟩; refine ⟨_, rfl, ?_⟩) | ((with_reducible refine gate_callee (f := 34) rfl ?_); refine goesL_ (some 11) rfl rfl Try.func34 (by kernel_rfl) rfl #[.int .u8 a0, .int .u8 a1] rfl (by (try simp only [List.map_toArray, List.map_cons, List.map_nil]); first | done | rfl | (simp only [List.length_drop, List.length_take]; rfl)) ?_; (with_reducible refine (reedsolomon_subMod8.calls a0 a1 t102 _ A4.out).mono ?_); rintro e w' ⟨rfl, ⟨nd, rfl⟩⟩; refine ⟨_, rfl, ?_⟩))
  go_ret2
  exact ⟨by first | rfl | (simp; done) | (simp [*]; done), by repeat (first | exact Drawn0.refl _ | apply Drawn0.step)⟩

/-! ### reedsolomon_fwht8: function 29 (given) -/
/-- A row of 256 bytes in the block g, of the array's type t. -/
def bytesV (D : Nat → Nat) : Array Value := ((List.range 256).map fun x => Value.int .u8 ((D x : Nat) : Int)).toArray
structure Bd (w : World) (t : TypeId) (g : Nat) (D : Nat → Nat) : Prop where mk :: (out : w.heap[g]? = some (.cells (bytesV D) t (0, 0)))
theorem bytesV_get (D : Nat → Nat) (i : Nat) (hi : i < 256) : (bytesV D)[i]? = some (.int .u8 ((D i : Nat) : Int)) := by
  unfold bytesV
  rw [List.getElem?_toArray, List.getElem?_map, List.getElem?_range hi]
  rfl
theorem bytesV_size (D : Nat → Nat) : (bytesV D).size = 256 := by simp [bytesV]
theorem bytesV_set (D : Nat → Nat) (i v : Nat) : (bytesV D).setIfInBounds i (.int .u8 (v : Int)) = bytesV (fun x => if x = i then v else D x) := by
  apply Array.ext_getElem?
  intro j
  rw [Array.getElem?_setIfInBounds]
  by_cases hj : j < 256
  · rw [bytesV_get _ j hj, bytesV_get _ j hj]
    by_cases e : i = j
    · subst e
      rw [if_pos rfl, if_pos (by rw [bytesV_size]; exact hj), if_pos rfl]
    · rw [if_neg e, if_neg (fun h => e h.symm)]
  · have h1 : ∀ W', (bytesV W')[j]? = none := fun W' => Array.getElem?_eq_none (by rw [bytesV_size]; omega)
    rw [h1, h1]
    split
    · rw [if_neg (by rw [bytesV_size]; omega)]
    · rfl
theorem Bd.cell {w : World} {t g : Nat} {D : Nat → Nat} (h : Bd w t g D) (i : Nat) (hi : i < 256) : w.cell? ⟨g, i, none⟩ = some (.int .u8 ((D i : Nat) : Int)) := (blk_cell h.out i).trans (bytesV_get D i hi)
theorem Bd.frozen {w : World} {t g : Nat} {D : Nat → Nat} (h : Bd w t g D) (i : Nat) : w.frozen? ⟨g, i, none⟩ = false := blk_frozen h.out i
theorem Bd.set {w : World} {t g : Nat} {D : Nat → Nat} (h : Bd w t g D) (i v : Nat) : Bd (w.setCell ⟨g, i, none⟩ (.int .u8 (v : Int))) t g (fun x => if x = i then v else D x) := ⟨blk_put h.out i _ (bytesV_set D i v)⟩
theorem Bd.drewN {w : World} {t g : Nat} {D : Nat → Nat} (h : Bd w t g D) (n : Nat) : Bd (w.drewN n) t g D := ⟨h.out⟩
theorem Bd.drew {w : World} {t g : Nat} {D : Nat → Nat} (h : Bd w t g D) : Bd w.drew t g D := ⟨h.out⟩
/-! Adding and subtracting modulo 255, and the transform as it is reckoned. -/
def add8 (a b : Nat) : Nat := (a + b + (a + b) / 256) % 256
def sub8 (a b : Nat) : Nat := if b ≤ a then a - b else a + 255 - b
def bfly (D : Nat → Nat) (o d : Nat) : Nat → Nat := fun x =>
  if x = o + 3 * d then sub8 (sub8 (D o) (D (o + d))) (sub8 (D (o + 2 * d)) (D (o + 3 * d)))
  else if x = o + 2 * d then sub8 (add8 (D o) (D (o + d))) (add8 (D (o + 2 * d)) (D (o + 3 * d)))
  else if x = o + d then add8 (sub8 (D o) (D (o + d))) (sub8 (D (o + 2 * d)) (D (o + 3 * d)))
  else if x = o then add8 (add8 (D o) (D (o + d))) (add8 (D (o + 2 * d)) (D (o + 3 * d)))
  else D x
def bflys (D : Nat → Nat) (o d : Nat) : Nat → Nat → Nat
  | 0 => D
  | n + 1 => bfly (bflys D o d n) (o + n) d
def blks (D : Nat → Nat) (d : Nat) : Nat → Nat → Nat
  | 0 => D
  | q + 1 => bflys (blks D d q) (q * (4 * d)) d d
/-- Of the blocks of 4 * d those that begin below m. -/
def stage (m : Nat) (D : Nat → Nat) (d : Nat) : Nat → Nat := blks D d ((m + (4 * d - 1)) / (4 * d))
def fw (m : Nat) (D : Nat → Nat) : Nat → Nat → Nat
  | 0 => D
  | s + 1 => stage m (fw m D s) (4 ^ s)
theorem add8_lt (a b : Nat) : add8 a b < 256 := Nat.mod_lt _ (by decide)
theorem sub8_lt (a b : Nat) (ha : a < 256) (hb : b < 256) : sub8 a b < 256 := by unfold sub8; split <;> omega
theorem bfly_lt {D : Nat → Nat} (h : ∀ x, D x < 256) (o d : Nat) : ∀ x, bfly D o d x < 256 := by
  intro x
  unfold bfly
  split
  · exact sub8_lt _ _ (sub8_lt _ _ (h _) (h _)) (sub8_lt _ _ (h _) (h _))
  · split
    · exact sub8_lt _ _ (add8_lt _ _) (add8_lt _ _)
    · split
      · exact add8_lt _ _
      · split
        · exact add8_lt _ _
        · exact h x
theorem alt_f (a b : Nat) (ha : a < 256) (hb : b < 256) : reedsolomon_fwht2alt8.f (a : Int) (b : Int) = some (((add8 a b : Nat) : Int), ((sub8 a b : Nat) : Int)) := by
  have hw : ∀ n : Int, IntKind.u64.wrap n = n % 18446744073709551616 := fun n => by simp [IntKind.wrap, IntKind.bits, IntKind.signed]
  unfold reedsolomon_fwht2alt8.f reedsolomon_addMod8.f reedsolomon_subMod8.f
  simp only [Option.bind_some, Option.some.injEq, Prod.mk.injEq, hw]
  refine ⟨?_, ?_⟩
  · unfold add8
    omega
  · unfold sub8
    split <;> omega
theorem reedsolomon_fwht8.fits (s d e q r : Nat) (hs : s < 4) (hd : d = 4 ^ s) (he : e = 4 * d) (hr : r = q * e) (h : r < 256) : r + e ≤ 256 := by
  obtain rfl | rfl | rfl | rfl : s = 0 ∨ s = 1 ∨ s = 2 ∨ s = 3 := by omega
  all_goals
    simp only [Nat.reducePow] at hd
    subst hd
    subst he
    omega
theorem reedsolomon_fwht8.u16 (n : Nat) (h : n < 65536) : IntKind.u16.wrap (n : Int) = (n : Int) := by
  rw [show IntKind.u16.wrap (n : Int) = (n : Int) % 65536 by simp [IntKind.wrap, IntKind.bits, IntKind.signed]]
  omega
set_option maxHeartbeats 8000000 in
set_option maxRecDepth 100000 in
theorem reedsolomon_fwht8.calls (g : Nat) (D0 : Nat → Nat) (m : Nat) (hm : m ≤ 256) (w0 w : World) (hW : Bd w 58 g D0) (hD : ∀ x, D0 x < 256) (hg : w0.heap.size ≤ g) (hB : Below w0.heap.size w0 w) :
    Calls Try.prog 29 #[.pointer (some ⟨g, 0, none⟩), .int .i64 (m : Int)] w fun e w' => e = .returned (.tuple #[]) ∧ Bd w' 58 g (fw m D0 4) ∧ (∀ x, fw m D0 4 x < 256) ∧ Below w0.heap.size w0 w' ∧ Kept w w' (fun k => k = g) := by
  have hu57 := Try.underlying57
  have hu58 := Try.underlying58
  have HW := Aside0.mk hW
  have HB := Aside0.mk hB
  have HKP := Aside0.mk (Kept.refl w (fun k => k = g))
  clear hW hB
  go_enter Try.func29, Try.ntmps29
  go_wp2
  go_loopg [4, 5] 4 (fun kq v4 v5 w' => ∃ (s d e : Nat), v4 = .int .i64 (d : Int) ∧ v5 = .int .i64 (e : Int) ∧ Aside0 (s + kq = 4 ∧ d = 4 ^ s ∧ e = 4 * d) ∧ Aside0 (Bd w' 58 g (fw m D0 s)) ∧ Aside0 (∀ x, fw m D0 s x < 256) ∧ Aside0 (Below w0.heap.size w0 w') ∧ Aside0 (Kept w w' (fun k => k = g)))
  case atStart => exact ⟨0, 1, 4, rfl, rfl, ⟨rfl, rfl, rfl⟩, HW, ⟨hD⟩, HB, HKP⟩
  case round =>
    clear HW HB HKP
    obtain ⟨s, d, e, rfl, rfl, HS, HW, HD, HB, HKP⟩ := hrel
    by_cases c1 : s < 4
    · have he : e ≤ 256 := by
        have := HS.out.2.2
        have := Nat.pow_le_pow_right (n := 4) (by decide) (show s ≤ 3 by omega)
        have := HS.out.2.1
        omega
      have hmd := decide_eq_true (show (e : Int) ≤ 256 by omega)
      go_wp2
      go_loopg [6] 256 (fun kq v6 w' => ∃ (q r : Nat), v6 = .int .i64 (r : Int) ∧ Aside0 (r = q * e ∧ q + kq = 256 ∧ q ≤ (m + (e - 1)) / e) ∧ Aside0 (Bd w' 58 g (blks (fw m D0 s) d q)) ∧ Aside0 (∀ x, blks (fw m D0 s) d q x < 256) ∧ Aside0 (Below w0.heap.size w0 w') ∧ Aside0 (Kept w w' (fun k => k = g)))
      case atStart => exact ⟨0, 0, rfl, ⟨(Nat.zero_mul _).symm, rfl, Nat.zero_le _⟩, HW, HD, HB, HKP⟩
      case round =>
        clear HW HB HD HKP
        obtain ⟨q, r, rfl, HQ, HW, HD, HB, HKP⟩ := hrel
        by_cases c2 : r < m
        · have hre : r + e ≤ 256 := reedsolomon_fwht8.fits s d e q r c1 HS.out.2.1 HS.out.2.2 HQ.out.1 (by omega)
          have hd1 : 1 ≤ d := by
            rw [HS.out.2.1]
            exact Nat.pow_pos (by decide)
          have h4d : e = 4 * d := HS.out.2.2
          have HE := Aside0.mk h4d
          clear hmd
          have hmd := decide_eq_true (show (r : Int) < (m : Int) by omega)
          have hmd' : decide (r < m) = true := decide_eq_true c2
          have hwd : IntKind.u16.wrap (d : Int) = (d : Int) := reedsolomon_fwht8.u16 d (by omega)
          have hwr : IntKind.u16.wrap (r : Int) = (r : Int) := reedsolomon_fwht8.u16 r (by omega)
          clear h4d
          go_wp2
          go_loopg [8, 26] d (fun kq v8 v26 w' => ∃ n o : Nat, v8 = .int .u16 (o : Int) ∧ v26 = .int .u16 (n : Int) ∧ Aside0 (n + kq = d ∧ o = r + n) ∧ Aside0 (Bd w' 58 g (bflys (blks (fw m D0 s) d q) r d n)) ∧ Aside0 (∀ x, bflys (blks (fw m D0 s) d q) r d n x < 256) ∧ Aside0 (Below w0.heap.size w0 w') ∧ Aside0 (Kept w w' (fun k => k = g)))
          case atStart => exact ⟨0, r, rfl, rfl, ⟨by omega, rfl⟩, HW, HD, HB, HKP⟩
          case round =>
            clear HW HB HD HKP hmd hmd'
            obtain ⟨n, o, rfl, rfl, HN, HW, HD, HB, HKP⟩ := hrel
            by_cases c3 : n < d
            · have ho : o + 3 * d < 256 := by have := HN.out; have := HE.out; omega
              have hmd := decide_eq_true (show (n : Int) < (d : Int) by omega)
              have hmd' : decide (n < d) = true := decide_eq_true c3
              obtain ⟨D, HDD⟩ : ∃ D, Aside0 (bflys (blks (fw m D0 s) d q) r d n = D) := ⟨_, ⟨rfl⟩⟩
              rw [HDD.out] at HW HD
              obtain ⟨o1, HO1, ho1⟩ : ∃ o1 : Nat, Aside0 (o1 = o + d) ∧ IntKind.u16.wrap ((o : Int) + (d : Int)) = (o1 : Int) := ⟨o + d, ⟨rfl⟩, by rw [← Int.natCast_add]; exact reedsolomon_fwht8.u16 _ (by omega)⟩
              obtain ⟨d2, HD2, hd2⟩ : ∃ d2 : Nat, Aside0 (d2 = 2 * d) ∧ IntKind.u16.wrap ((d : Int) * 2) = (d2 : Int) := ⟨2 * d, ⟨rfl⟩, by rw [show (d : Int) * 2 = ((2 * d : Nat) : Int) by omega]; exact reedsolomon_fwht8.u16 _ (by omega)⟩
              obtain ⟨d3, HD3, hd3⟩ : ∃ d3 : Nat, Aside0 (d3 = 3 * d) ∧ IntKind.u16.wrap ((d : Int) * 3) = (d3 : Int) := ⟨3 * d, ⟨rfl⟩, by rw [show (d : Int) * 3 = ((3 * d : Nat) : Int) by omega]; exact reedsolomon_fwht8.u16 _ (by omega)⟩
              obtain ⟨o2, HO2, ho2⟩ : ∃ o2 : Nat, Aside0 (o2 = o + 2 * d) ∧ IntKind.u16.wrap ((o : Int) + (d2 : Int)) = (o2 : Int) := ⟨o + 2 * d, ⟨rfl⟩, by rw [HD2.out, ← Int.natCast_add]; exact reedsolomon_fwht8.u16 _ (by omega)⟩
              obtain ⟨o3, HO3, ho3⟩ : ∃ o3 : Nat, Aside0 (o3 = o + 3 * d) ∧ IntKind.u16.wrap ((o : Int) + (d3 : Int)) = (o3 : Int) := ⟨o + 3 * d, ⟨rfl⟩, by rw [HD3.out, ← Int.natCast_add]; exact reedsolomon_fwht8.u16 _ (by omega)⟩
              have hb0 : ((o : Int) < 256) = True := eq_true (by omega)
              have hb1 : ((o1 : Int) < 256) = True := eq_true (by have := HO1.out; omega)
              have hb2 : ((o2 : Int) < 256) = True := eq_true (by have := HO2.out; omega)
              have hb3 : ((o3 : Int) < 256) = True := eq_true (by have := HO3.out; omega)
              have hc0 := HW.out.cell o (by omega)
              have hc1 := HW.out.cell o1 (by have := HO1.out; omega)
              have hc2 := HW.out.cell o2 (by have := HO2.out; omega)
              have hc3 := HW.out.cell o3 (by have := HO3.out; omega)
              obtain ⟨s0, s1, HF1, HS01⟩ : ∃ s0 s1 : Nat, Aside0 (reedsolomon_fwht2alt8.f ((D o : Nat) : Int) ((D o1 : Nat) : Int) = some ((s0 : Int), (s1 : Int))) ∧ Aside0 (s0 = add8 (D o) (D o1) ∧ s1 = sub8 (D o) (D o1) ∧ s0 < 256 ∧ s1 < 256) := ⟨_, _, ⟨alt_f _ _ (HD.out _) (HD.out _)⟩, ⟨rfl, rfl, add8_lt _ _, sub8_lt _ _ (HD.out _) (HD.out _)⟩⟩
              obtain ⟨s2, s3, HF2, HS23⟩ : ∃ s0 s1 : Nat, Aside0 (reedsolomon_fwht2alt8.f ((D o2 : Nat) : Int) ((D o3 : Nat) : Int) = some ((s0 : Int), (s1 : Int))) ∧ Aside0 (s0 = add8 (D o2) (D o3) ∧ s1 = sub8 (D o2) (D o3) ∧ s0 < 256 ∧ s1 < 256) := ⟨_, _, ⟨alt_f _ _ (HD.out _) (HD.out _)⟩, ⟨rfl, rfl, add8_lt _ _, sub8_lt _ _ (HD.out _) (HD.out _)⟩⟩
              obtain ⟨t0, t2, HF3, HT02⟩ : ∃ t0 t2 : Nat, Aside0 (reedsolomon_fwht2alt8.f (s0 : Int) (s2 : Int) = some ((t0 : Int), (t2 : Int))) ∧ Aside0 (t0 = add8 s0 s2 ∧ t2 = sub8 s0 s2) := ⟨_, _, ⟨alt_f _ _ HS01.out.2.2.1 HS23.out.2.2.1⟩, ⟨rfl, rfl⟩⟩
              obtain ⟨t1, t3, HF4, HT13⟩ : ∃ t1 t3 : Nat, Aside0 (reedsolomon_fwht2alt8.f (s1 : Int) (s3 : Int) = some ((t1 : Int), (t3 : Int))) ∧ Aside0 (t1 = add8 s1 s3 ∧ t3 = sub8 s1 s3) := ⟨_, _, ⟨alt_f _ _ HS01.out.2.2.2 HS23.out.2.2.2⟩, ⟨rfl, rfl⟩⟩
              have hou : IntKind.u16.wrap ((o : Int) + 1) = ((o + 1 : Nat) : Int) := by rw [show (o : Int) + 1 = ((o + 1 : Nat) : Int) by omega]; exact reedsolomon_fwht8.u16 _ (by omega)
              have hnu : IntKind.u16.wrap ((n : Int) + 1) = ((n + 1 : Nat) : Int) := by rw [show (n : Int) + 1 = ((n + 1 : Nat) : Int) by omega]; exact reedsolomon_fwht8.u16 _ (by omega)
              go_wp2_with (first | ((with_reducible refine gate_dst (N := 59) rfl ?_); (with_reducible refine gate_callee (f := 32) rfl ?_); refine goesL_ (some 59) rfl rfl Try.func32 (by kernel_rfl) rfl #[.int .u8 (((D o : Nat)) : Int), .int .u8 (((D o1 : Nat)) : Int)] rfl (by (try simp only [List.map_toArray, List.map_cons, List.map_nil]); first | done | rfl) ?_; (with_reducible refine (reedsolomon_fwht2alt8.calls _ _ _ _ _ (HF1.out)).mono ?_); rintro e6 w6 ⟨rfl, hd⟩; refine ⟨_, rfl, ?_⟩; (obtain ⟨nn, rfl⟩ := hd)) | ((with_reducible refine gate_dst (N := 65) rfl ?_); (with_reducible refine gate_callee (f := 32) rfl ?_); refine goesL_ (some 65) rfl rfl Try.func32 (by kernel_rfl) rfl #[.int .u8 (((D o2 : Nat)) : Int), .int .u8 (((D o3 : Nat)) : Int)] rfl (by (try simp only [List.map_toArray, List.map_cons, List.map_nil]); first | done | rfl) ?_; (with_reducible refine (reedsolomon_fwht2alt8.calls _ _ _ _ _ (HF2.out)).mono ?_); rintro e6 w6 ⟨rfl, hd⟩; refine ⟨_, rfl, ?_⟩; (obtain ⟨nn, rfl⟩ := hd)) | ((with_reducible refine gate_dst (N := 71) rfl ?_); (with_reducible refine gate_callee (f := 32) rfl ?_); refine goesL_ (some 71) rfl rfl Try.func32 (by kernel_rfl) rfl #[.int .u8 (s0 : Int), .int .u8 (s2 : Int)] rfl (by (try simp only [List.map_toArray, List.map_cons, List.map_nil]); first | done | rfl) ?_; (with_reducible refine (reedsolomon_fwht2alt8.calls _ _ _ _ _ (HF3.out)).mono ?_); rintro e6 w6 ⟨rfl, hd⟩; refine ⟨_, rfl, ?_⟩; (obtain ⟨nn, rfl⟩ := hd)) | ((with_reducible refine gate_dst (N := 77) rfl ?_); (with_reducible refine gate_callee (f := 32) rfl ?_); refine goesL_ (some 77) rfl rfl Try.func32 (by kernel_rfl) rfl #[.int .u8 (s1 : Int), .int .u8 (s3 : Int)] rfl (by (try simp only [List.map_toArray, List.map_cons, List.map_nil]); first | done | rfl) ?_; (with_reducible refine (reedsolomon_fwht2alt8.calls _ _ _ _ _ (HF4.out)).mono ?_); rintro e6 w6 ⟨rfl, hd⟩; refine ⟨_, rfl, ?_⟩; (have HW1 := Aside0.mk (show Bd w6 58 g D by obtain ⟨nn, rfl⟩ := hd; exact ⟨HW.out.out⟩)); (have HB1 := Aside0.mk (show Below w0.heap.size w0 w6 by obtain ⟨nn, rfl⟩ := hd; exact ⟨HB.out.os, HB.out.tape, HB.out.output, HB.out.size, HB.out.block⟩)); (have HKP1 := Aside0.mk (show Kept w w6 (fun k => k = g) by obtain ⟨nn, rfl⟩ := hd; exact HKP.out)); clear hd hc0 hc1 hc2 hc3 HW HB HKP; (have hc0 := HW1.out.cell o (by omega)); (have hf0 := HW1.out.frozen o); (have hc1 := (HW1.out.set o t0).cell o1 (by have := HO1.out; omega)); (have hf1 := (HW1.out.set o t0).frozen o1); (have hc2 := ((HW1.out.set o t0).set o1 t1).cell o2 (by have := HO2.out; omega)); (have hf2 := ((HW1.out.set o t0).set o1 t1).frozen o2); (have hc3 := (((HW1.out.set o t0).set o1 t1).set o2 t2).cell o3 (by have := HO3.out; omega)); (have hf3 := (((HW1.out.set o t0).set o1 t1).set o2 t2).frozen o3)))
              have HW2 := Aside0.mk ((((HW1.out.set o t0).set o1 t1).set o2 t2).set o3 t3)
              have HB2 := Aside0.mk (below_set (j := o3) (v := .int .u8 (t3 : Int)) (below_set (j := o2) (v := .int .u8 (t2 : Int)) (below_set (j := o1) (v := .int .u8 (t1 : Int)) (below_set (j := o) (v := .int .u8 (t0 : Int)) HB1.out hg) hg) hg) hg)
              have HKP2 := Aside0.mk ((((HKP1.out.setCell (p := ⟨g, o, none⟩) (Or.inl rfl) (.int .u8 (t0 : Int))).setCell (p := ⟨g, o1, none⟩) (Or.inl rfl) (.int .u8 (t1 : Int))).setCell (p := ⟨g, o2, none⟩) (Or.inl rfl) (.int .u8 (t2 : Int))).setCell (p := ⟨g, o3, none⟩) (Or.inl rfl) (.int .u8 (t3 : Int)))
              have hfun : (fun x => if x = o3 then t3 else if x = o2 then t2 else if x = o1 then t1 else if x = o then t0 else D x) = bflys (blks (fw m D0 s) d q) r d (n + 1) := by
                show _ = bfly (bflys (blks (fw m D0 s) d q) r d n) (r + n) d
                rw [HDD.out, ← HN.out.2]
                funext x
                unfold bfly
                rw [HT02.out.1, HT02.out.2, HT13.out.1, HT13.out.2, HS01.out.1, HS01.out.2.1, HS23.out.1, HS23.out.2.1, HO1.out, HO2.out, HO3.out]
              have HFUN := Aside0.mk hfun
              clear hfun
              go_roundg (d - n - 1)
              case measure => have := HN.out; omega
              case rel => exact ⟨n + 1, o + 1, rfl, rfl, ⟨by omega, by have := HN.out; omega⟩, ⟨by rw [← HFUN.out]; exact HW2.out⟩, ⟨by
                show ∀ x, bfly (bflys (blks (fw m D0 s) d q) r d n) (r + n) d x < 256
                rw [HDD.out]
                exact bfly_lt HD.out _ _⟩, HB2, HKP2⟩
            · have hnd : n = d := by have := HN.out; omega
              subst hnd
              have hmd := decide_eq_false (show ¬ (n : Int) < (n : Int) by omega)
              obtain ⟨re, hre1, HRE⟩ : ∃ re : Nat, wrap64 ((r : Int) + (e : Int)) = (re : Int) ∧ Aside0 (re = r + e) := ⟨r + e, by unfold wrap64; omega, ⟨rfl⟩⟩
              go_wp2
              go_roundg (255 - q)
              case measure =>
                have := HQ.out.1
                have := HE.out
                have h4 : q * 4 ≤ q * e := Nat.mul_le_mul_left q (by omega)
                have := HQ.out.2.1
                omega
              case rel =>
                refine ⟨q + 1, re, by rw [HRE.out]; rfl, ⟨by rw [HRE.out, HQ.out.1, Nat.succ_mul], ?_, ?_⟩, ?_, ?_, HB, HKP⟩
                · have := HQ.out.1
                  have := HE.out
                  have h4 : q * 4 ≤ q * e := Nat.mul_le_mul_left q (by omega)
                  have := HQ.out.2.1
                  omega
                · have := HQ.out.1
                  rw [Nat.le_div_iff_mul_le (by have := HE.out; omega), Nat.succ_mul]
                  omega
                · refine ⟨?_⟩
                  show Bd _ 58 g (bflys (blks (fw m D0 s) n q) (q * (4 * n)) n n)
                  rw [← HE.out, ← HQ.out.1]
                  exact HW.out
                · refine ⟨?_⟩
                  show ∀ x, bflys (blks (fw m D0 s) n q) (q * (4 * n)) n n x < 256
                  rw [← HE.out, ← HQ.out.1]
                  exact HD.out
        · clear hmd
          have hmd := decide_eq_false (show ¬ (r : Int) < (m : Int) by omega)
          have hmd' : decide (r < m) = false := decide_eq_false c2
          obtain ⟨e4, he4, HE4⟩ : ∃ e4 : Nat, wrap64 ((e : Int) * 4) = (e4 : Int) ∧ Aside0 (e4 = e * 4) := ⟨e * 4, by unfold wrap64; omega, ⟨rfl⟩⟩
          go_wp2
          have hd1 : 1 ≤ d := by
            rw [HS.out.2.1]
            exact Nat.pow_pos (by decide)
          have hq : q = (m + (4 * d - 1)) / (4 * d) := by
            rw [← HS.out.2.2]
            have h1 := HQ.out.2.2
            have h2 : (m + (e - 1)) / e ≤ q := by
              have := HQ.out.1
              have h3 : (m + (e - 1)) / e < q + 1 := by
                rw [Nat.div_lt_iff_lt_mul (by have := HS.out; omega), Nat.succ_mul]
                have := HS.out.2.2
                omega
              omega
            omega
          have HST := Aside0.mk (show blks (fw m D0 s) d q = fw m D0 (s + 1) by
            show _ = stage m (fw m D0 s) (4 ^ s)
            unfold stage
            rw [← HS.out.2.1, ← hq])
          rw [HST.out] at HW HD
          clear hq
          go_roundg (3 - s)
          case measure => have := HS.out; omega
          case rel => exact ⟨s + 1, e, e4, rfl, by rw [HE4.out]; rfl, ⟨by have := HS.out; omega, by rw [HS.out.2.2, HS.out.2.1, Nat.pow_succ, Nat.mul_comm], by rw [HE4.out, Nat.mul_comm]⟩, HW, HD, HB, HKP⟩
    · have hs4 : s = 4 := by have := HS.out; omega
      subst hs4
      have he4 : e = 1024 := by have := HS.out.2.2; have := HS.out.2.1; omega
      subst he4
      have hmd := decide_eq_false (show ¬ ((1024 : Nat) : Int) ≤ 256 by omega)
      go_wp2
      go_end0
      exact ⟨rfl, HW.out, HD.out, HB.out, HKP.out⟩

/-! ### reedsolomon_DoorWalsh: function 24 (given) -/
theorem bytesV_congr {D E : Nat → Nat} (h : ∀ x, x < 256 → D x = E x) : bytesV D = bytesV E := by
  unfold bytesV
  rw [List.map_congr_left fun x hx => by rw [h x (List.mem_range.1 hx)]]
theorem bytesV_one (D : Nat → Nat) : (bytesV D).all (·.oneCell') = true := by
  rw [Array.all_eq_true_iff_forall_mem]
  intro x hx
  simp only [bytesV, List.mem_toArray, List.mem_map] at hx
  obtain ⟨y, _, rfl⟩ := hx
  rfl
theorem Bd.congr {w : World} {t g : Nat} {D E : Nat → Nat} (h : Bd w t g D) (he : ∀ x, x < 256 → D x = E x) : Bd w t g E := ⟨bytesV_congr he ▸ h.out⟩
theorem Bd.below {w w1 : World} {t g : Nat} {D : Nat → Nat} (h : Bd w t g D) (hb : Below w.heap.size w w1) : Bd w1 t g D := ⟨blk_below h.out hb⟩
theorem Bd.far {w : World} {t g g' i : Nat} {D : Nat → Nat} (h : Bd w t g D) (hne : g ≠ g') (v : Value) : Bd (w.setCell ⟨g', i, none⟩ v) t g D := ⟨blk_far h.out hne v⟩
def cut (D : Nat → Nat) : Nat → Nat := fun x => if x < 256 then D x else 0
theorem cut_lt {D : Nat → Nat} (h : ∀ x, D x < 256) : ∀ x, cut D x < 256 := by
  intro x
  unfold cut
  split
  · exact h x
  · decide
theorem below_row {B g : Nat} {w0 w : World} (hb : Below B w0 w) (hBg : B ≤ g) (cs : Array Value) : Below B w0 (w.setRow g cs) :=
  ⟨hb.os, hb.tape, hb.output, by rw [setRow_size]; exact hb.size, fun i hi => (setRow_other w g i cs (by omega)).trans (hb.block i hi)⟩
theorem index_bytes {t e : TypeId} (hu : Try.prog.underlying t = some (.array 256 e)) (he : Try.prog.underlying e = some (.int .u8)) (hs : (Try.prog.info? e).map (·.size) = some 1) (D : Nat → Nat) (i : Nat) (hi : i < 256) (W : World) : (Instr.index t (.agg (bytesV D)) (.int .i64 (i : Int))).run Try.prog W = .ok (.int .u8 ((D i : Nat) : Int)) W := by
  obtain ⟨i0, hi0, h1⟩ := Option.map_eq_some_iff.1 hs
  simp [Instr.index, Sem.run_bind, asIntOf, run_underlying hu, part, isAgg, run_underlying he, sizeOf, typeInfo, hi0, h1, bytesV_get D i hi, hi]
set_option maxHeartbeats 8000000 in
set_option maxRecDepth 100000 in
theorem reedsolomon_DoorWalsh.calls (D : Nat → Nat) (m : Nat) (hm : m ≤ 256) (hD : ∀ x, D x < 256) (w : World) :
    Calls Try.prog 24 #[.agg (bytesV D), .int .i64 (m : Int)] w fun e w' => e = .returned (.agg (bytesV (fw m (cut D) 4))) ∧ Below w.heap.size w w' := by
  have hu5 := Try.underlying5
  have hu52 := Try.underlying52
  have hu57 := Try.underlying57
  have hu58 := Try.underlying58
  have hi52 : (Try.prog.info? 52).map (·.size) = some (bytesV D).size := by rw [bytesV_size]; kernel_rfl
  have HB := Aside0.mk (Below.refl w.heap.size w)
  go_enter Try.func24, Try.ntmps24
  go_wp2_with (first | ((with_reducible refine gate_dst (N := 2) rfl ?_); refine box_event ?hg (N := 2) ?hd (cs := bytesV D) (t := 52) ?hr ?_; (case hd => rfl); (case hg => rfl); (case hr => first | (go_simp; done) | (go_simp; rfl)); intro g2 hg w2 hbox hb; (have H2 := Aside0.mk (Bd.mk hbox)); (have GE2 := Aside0.mk (show w.heap.size ≤ g2 by have := HB.out.size; omega)); (have HB1 := Aside0.mk (below_step HB.out hb)); clear hbox hb hg HB; have HB := HB1; clear HB1) | ((with_reducible refine gate_dst (N := 4) rfl ?_); refine box_event ?hg (N := 4) ?hd (cs := bytesV (fun _ => 0)) (t := 52) ?hr ?_; (case hd => rfl); (case hg => rfl); (case hr => first | (go_simp; done) | (go_simp; rfl)); intro g4 hg w4 hbox hb; (have H4 := Aside0.mk (Bd.mk hbox)); (have GE4 := Aside0.mk (show w.heap.size ≤ g4 by have := HB.out.size; omega)); (have HNE := Aside0.mk (show g2 ≠ g4 by have := blk_lt H2.out.out; omega)); (have H21 := Aside0.mk (H2.out.below hb)); (have HB1 := Aside0.mk (below_step HB.out hb)); clear hbox hb hg HB H2; have HB := HB1; have H2 := H21; clear HB1 H21) | ((with_reducible refine gate_dst (N := 5) rfl ?_); refine box_event ?hg (N := 5) ?hd (cs := bytesV (fun _ => 0)) (t := 58) ?hr ?_; (case hd => rfl); (case hg => rfl); (case hr => first | (go_simp; done) | (go_simp; rfl)); intro g5 hg w5 hbox hb; (have H5 := Aside0.mk (Bd.mk hbox)); (have GE5 := Aside0.mk (show w.heap.size ≤ g5 by have := HB.out.size; omega)); (have H21 := Aside0.mk (H2.out.below hb)); (have H41 := Aside0.mk (H4.out.below hb)); (have HB1 := Aside0.mk (below_step HB.out hb)); clear hbox hb hg HB H2 H4; have HB := HB1; have H2 := H21; have H4 := H41; clear HB1 H21 H41) | ((with_reducible refine gate_dst (N := 10) rfl ?_); refine wpList_load_row rfl 52 (.tmp 2) rfl g2 rfl 52 _ (0, 0) _ H2.out.out Try.underlying52 rfl (by rw [bytesV_size]; kernel_rfl) ?_))
  have NE25 : Aside0 (g2 ≠ g5) := ⟨blk_ne H2.out.out H5.out.out (by decide)⟩
  have NE45 : Aside0 (g4 ≠ g5) := ⟨blk_ne H4.out.out H5.out.out (by decide)⟩
  clear hi52
  go_loopg [11] 256 (fun kq v11 w' => ∃ i : Nat, v11 = .int .i64 (i : Int) ∧ Aside0 (i + kq = 256) ∧ Aside0 (Bd w' 52 g2 D) ∧ Aside0 (Bd w' 52 g4 (fun _ => 0)) ∧ Aside0 (Bd w' 58 g5 (fun x => if x < i then D x else 0)) ∧ Aside0 (Below w.heap.size w w'))
  case atStart => exact ⟨0, rfl, ⟨rfl⟩, H2, H4, ⟨H5.out.congr fun x _ => (if_neg (Nat.not_lt_zero x)).symm⟩, HB⟩
  case round =>
    clear H2 H4 H5 HB
    obtain ⟨i, rfl, HI, H2, H4, H5, HB⟩ := hrel
    by_cases c1 : i < 256
    · have hmd := decide_eq_true (show (i : Int) < 256 by omega)
      have hlt := eq_true (show (i : Int) < 256 by omega)
      have hbi := index_bytes hu52 hu5 (by kernel_rfl) D i c1
      have hc := H5.out.cell i c1
      have hf := H5.out.frozen i
      go_wp2
      have H51 := Aside0.mk (H5.out.set i (D i))
      have H21 := Aside0.mk (H2.out.far (i := i) NE25.out (.int .u8 ((D i : Nat) : Int)))
      have H41 := Aside0.mk (H4.out.far (i := i) NE45.out (.int .u8 ((D i : Nat) : Int)))
      have HB1 := Aside0.mk (below_set (j := i) (v := .int .u8 ((D i : Nat) : Int)) HB.out GE5.out)
      go_roundg (255 - i)
      case measure => have := HI.out; omega
      case rel =>
        refine ⟨i + 1, rfl, ⟨by omega⟩, H21, H41, ⟨H51.out.congr fun x _ => ?_⟩, HB1⟩
        show (if x = i then D i else if x < i then D x else 0) = if x < i + 1 then D x else 0
        by_cases e : x = i
        · subst e
          rw [if_pos rfl, if_pos (by omega)]
        · rw [if_neg e]
          by_cases e2 : x < i
          · rw [if_pos e2, if_pos (by omega)]
          · rw [if_neg e2, if_neg (by omega)]
    · have hi256 : i = 256 := by have := HI.out; omega
      subst hi256
      have hmd := decide_eq_false (show ¬ ((256 : Nat) : Int) < 256 by omega)
      go_wp2_with (first | ((with_reducible refine gate_callee (f := 29) rfl ?_); refine goesL_ (some 20) rfl rfl Try.func29 (by kernel_rfl) rfl #[.pointer (some ⟨g5, 0, none⟩), .int .i64 (m : Int)] rfl (by (try simp only [List.map_toArray, List.map_cons, List.map_nil]); first | done | rfl) ?_; (with_reducible refine (reedsolomon_fwht8.calls g5 (cut D) m hm w _ H5.out (cut_lt hD) GE5.out HB.out).mono ?_); rintro e6 w6 ⟨rfl, ho, hlt, hb, hk⟩; refine ⟨_, rfl, ?_⟩; (have H51 := Aside0.mk ho); (have H21 := Aside0.mk (Bd.mk (blk_kept H2.out.out hk NE25.out))); (have H41 := Aside0.mk (Bd.mk (blk_kept H4.out.out hk NE45.out))); (have HB1 := Aside0.mk hb); clear ho hlt hb hk H2 H4 H5 HB; have H2 := H21; have H4 := H41; have H5 := H51; have HB := HB1; clear H21 H41 H51 HB1) | ((with_reducible refine gate_dst (N := 21) rfl ?_); refine wpList_load_row rfl 58 (.tmp 5) rfl g5 rfl 58 _ (0, 0) _ H5.out.out Try.underlying58 rfl (by rw [bytesV_size]; kernel_rfl) ?_))
      obtain ⟨R, HR⟩ : ∃ R, Aside0 (fw m (cut D) 4 = R) := ⟨_, ⟨rfl⟩⟩
      rw [HR.out] at H5 ⊢
      go_loopg [22] 256 (fun kq v22 w' => ∃ i : Nat, v22 = .int .i64 (i : Int) ∧ Aside0 (i + kq = 256) ∧ Aside0 (Bd w' 52 g2 (fun x => if x < i then R x else D x)) ∧ Aside0 (Bd w' 52 g4 (fun _ => 0)) ∧ Aside0 (Below w.heap.size w w'))
      case atStart => exact ⟨0, rfl, ⟨rfl⟩, ⟨H2.out.congr fun x _ => (if_neg (Nat.not_lt_zero x)).symm⟩, H4, HB⟩
      case round =>
        clear H2 H4 H5 HB hmd
        obtain ⟨i, rfl, HI, H2, H4, HB⟩ := hrel
        by_cases c1 : i < 256
        · have hmd := decide_eq_true (show (i : Int) < 256 by omega)
          have hlt := eq_true (show (i : Int) < 256 by omega)
          have hbi := index_bytes hu58 hu57 (by kernel_rfl) R i c1
          have hc := H2.out.cell i c1
          have hf := H2.out.frozen i
          go_wp2
          have H21 := Aside0.mk (H2.out.set i (R i))
          have H41 := Aside0.mk (H4.out.far (i := i) (Ne.symm HNE.out) (.int .u8 ((R i : Nat) : Int)))
          have HB1 := Aside0.mk (below_set (j := i) (v := .int .u8 ((R i : Nat) : Int)) HB.out GE2.out)
          go_roundg (255 - i)
          case measure => have := HI.out; omega
          case rel =>
            refine ⟨i + 1, rfl, ⟨by omega⟩, ⟨H21.out.congr fun x _ => ?_⟩, H41, HB1⟩
            show (if x = i then R i else if x < i then R x else D x) = if x < i + 1 then R x else D x
            by_cases e : x = i
            · subst e
              rw [if_pos rfl, if_pos (by omega)]
            · rw [if_neg e]
              by_cases e2 : x < i
              · rw [if_pos e2, if_pos (by omega)]
              · rw [if_neg e2, if_neg (by omega)]
        · have hi256 : i = 256 := by have := HI.out; omega
          subst hi256
          have hmd := decide_eq_false (show ¬ ((256 : Nat) : Int) < 256 by omega)
          have H2R := Aside0.mk (H2.out.congr (E := R) fun x hx => if_pos hx)
          go_wp2_with (first | ((with_reducible refine gate_dst (N := 30) rfl ?_); refine wpList_load_row rfl 52 (.tmp 2) rfl g2 rfl 52 _ (0, 0) _ H2R.out.out Try.underlying52 rfl (by rw [bytesV_size]; kernel_rfl) ?_) | ((with_reducible refine gate_store (t := 52) (p := 4) rfl ?_); refine wpList_store_row rfl 52 (.tmp 4) (.tmp 30) rfl g4 (bytesV R) rfl rfl 52 _ H4.out.out (by rw [bytesV_size]; kernel_rfl) (by rw [bytesV_size, bytesV_size]) (bytesV_one R) ?_))
          have HBE := below_row HB.out GE4.out (bytesV R)
          have HRE := setRow_heap wr g4 _ (bytesV R) _ _ H4.out.out
          try simp only [Exit.inBlock, Exit.then]
          refine bodyPost_ret (results_cell_row rfl _ _ g4 52 _ (0, 0) _ rfl HRE Try.underlying52 rfl (by rw [bytesV_size]; kernel_rfl)) rfl ?_
          exact ⟨by rw [HR.out], HBE⟩

/-! ### impl_Walsh: function 16 (given) -/
def ofL (l : List Int) : Nat → Nat := fun x => if x < l.length then (l.getD x 0).toNat else 0
section
variable {P : Program} {ops : Array Oper} {rest : List Oper} {o : Oper} {a : Act} {Q : Exit → Act → World → Prop} {W : World}
theorem copy_ev (hgd : o.guard = none) {N : Tmp} (_hd : o.dst = some N) (s x : Operand) (t t' e : TypeId)
    (ho : o.op = .call { callee := .builtin .copy, args := #[s, x], argTypes := #[t, t'] }) (ht : P.underlying t = some (.slice e)) (hinfo : (P.info? e).map (·.size) = some 1)
    (g tb : Nat) (l : List Int) (A : Option Addr) (c : Nat) (hl : l.length ≤ 256) (hp : ∀ x ∈ l, 0 ≤ x) (hs : a.eval s = .slice (some ⟨g, 0, none⟩) 256 256) (hx : a.eval x = .slice A l.length c)
    (HD : Bd W tb g (fun _ => 0)) (HR : Kd.C (Kd.int .u8) W A l.length l)
    (h : ∀ w1, Bd w1 tb g (ofL l) → (∀ B w0, Below B w0 W → B ≤ g → Below B w0 w1) → wpList P ops Q rest (a.put o.dst (.int .i64 (l.length : Int))) w1) : wpList P ops Q (o :: rest) a W := by
  have fin : ∀ w1, (Builtin.copy_ #[t, t'] o.type #[.slice (some ⟨g, 0, none⟩) 256 256, .slice A l.length c]).run P W = .ok (goInt ((l.length : Nat) : Int)) w1 → Bd w1 tb g (ofL l) → (∀ B w0, Below B w0 W → B ≤ g → Below B w0 w1) → wpList P ops Q (o :: rest) a W := by
    intro w1 hr hd hb
    refine wpList_plain hgd fun K hK => ?_
    unfold Oper.wp execOp
    simp only [ho, resolve, invoke, builtin, Sem.run_bind, Sem.run_pure, Result.andThen_ok, List.map_toArray, List.map_cons, List.map_nil, hs, hx, hr]
    exact hK _ _ (h w1 hd hb)
  by_cases h0 : l.length = 0
  · refine fin W ?_ (HD.congr fun x _ => ?_) (fun _ _ hb _ => hb)
    · have := run_copy_none (P := P) W t t' o.type e (some ⟨g, 0, none⟩) A 256 256 l.length c ht hinfo (by rw [h0]; rfl)
      rw [h0] at this ⊢
      exact this
    · unfold ofL
      rw [if_neg (by omega)]
  · obtain ⟨ad, hA, _⟩ := Kd.at_int HR 0 (by omega) (by omega)
    have hsrc : ∀ j v, ((l.map fun n => Value.int .u8 n))[j]? = some v → W.cell? (ad.add j) = some v := by
      intro j v hv
      have hj : j < l.length := by
        rcases Nat.lt_or_ge j l.length with h | h
        · exact h
        · rw [List.getElem?_eq_none (by simpa using h)] at hv
          cases hv
      obtain ⟨ad', hA', hc⟩ := Kd.at_int HR (j : Int) (by omega) (by omega)
      rw [hA] at hA'
      obtain rfl := Option.some.inj hA'
      rw [Int.toNat_natCast] at hc
      rw [hc, ← hv, List.getElem?_map, List.getElem?_eq_getElem hj]
      show some (Value.int .u8 (l.getD ((j : Int)).toNat 0)) = _
      rw [Int.toNat_natCast, List.getD_eq_getElem?_getD, List.getElem?_eq_getElem hj]
      rfl
    have hlen : (l.map fun n => Value.int .u8 n).length = l.length := by simp
    have hr := run_copy_cells (P := P) W t t' o.type e g 0 256 256 ad l.length c (l.map fun n => Value.int .u8 n) ht hinfo (by rw [hlen]; show _ = min l.length 256; omega) hsrc
      (fun j hj => by rw [Nat.zero_add, HD.cell j (by rw [hlen] at hj; omega)]; rfl) (fun j _ => by rw [Nat.zero_add]; exact HD.frozen j) (by intro u hu; simp only [List.mem_map] at hu; obtain ⟨q, _, rfl⟩ := hu; rfl)
    obtain ⟨cur', h3, h4, h5⟩ := setCells_row (l.map fun n => Value.int .u8 n) 0 W _ HD.out (by rw [hlen, bytesV_size]; omega)
    obtain ⟨s1, s2, s3, s4⟩ := setCells_same g (l.map fun n => Value.int .u8 n) 0 W
    refine fin _ (by rw [hA, hr, hlen]) ⟨?_⟩ (fun B w0 hb hg => ⟨s1.trans hb.os, s2.trans hb.tape, s3.trans hb.output, by rw [s4]; exact hb.size, fun i hi => (setCells_far _ _ i (by omega)).trans (hb.block i hi)⟩)
    rw [h3]
    congr 2
    apply Array.ext_getElem?
    intro j
    rw [← Array.getElem?_toList, h5, List.take_zero, List.nil_append, Nat.zero_add]
    by_cases hj : j < 256
    · rw [bytesV_get _ j hj]
      by_cases hjl : j < l.length
      · rw [List.getElem?_append_left (by simpa using hjl), List.getElem?_map, List.getElem?_eq_getElem hjl]
        have := hp _ (List.getElem_mem hjl)
        unfold ofL
        rw [if_pos hjl, List.getD_eq_getElem?_getD, List.getElem?_eq_getElem hjl]
        show some (Value.int .u8 (l[j])) = some (Value.int .u8 ((l[j].toNat : Nat) : Int))
        rw [Int.toNat_of_nonneg this]
      · rw [List.getElem?_append_right (by rw [hlen]; omega), List.getElem?_drop, hlen, show l.length + (j - l.length) = j by omega, Array.getElem?_toList, bytesV_get _ j hj]
        unfold ofL
        rw [if_neg hjl]
    · rw [List.getElem?_eq_none (by have h9 := bytesV_size (fun _ => 0); simp only [List.length_append, List.length_map, List.length_drop, Array.length_toList]; omega), Array.getElem?_eq_none (by rw [bytesV_size]; omega)]
end
def outL (D : Nat → Nat) : List Int := (List.range 256).map fun x => ((D x : Nat) : Int)
theorem outL_length (D : Nat → Nat) : (outL D).length = 256 := by simp [outL]
def impl_Walsh.f (l : List Int) (a1 : Int) : Option (List Int) :=
  if l.length ≤ 256 ∧ (∀ x ∈ l, 0 ≤ x ∧ x < 256) ∧ a1 = (l.length : Int) then some (outL (fw l.length (cut (ofL l)) 4)) else none
theorem Bd.reads {w : World} {t g : Nat} {D : Nat → Nat} (h : Bd w t g D) : Kd.C (Kd.int .u8) w (some ⟨g, 0, none⟩) (outL D).length (outL D) := by
  refine Kd.C_of_reads (d := (0 : Int)) ⟨rfl, by rw [outL_length]; decide, fun _ => ⟨_, rfl, fun j hj => ?_⟩⟩
  rw [outL_length] at hj
  have e : (⟨g, 0, none⟩ : Addr).add j = ⟨g, j, none⟩ := by unfold Addr.add; split <;> simp_all
  rw [e, h.cell j hj]
  congr 1
  rw [List.getD_eq_getElem?_getD]
  simp [outL, hj]
theorem ofL_lt {l : List Int} (h : ∀ x ∈ l, 0 ≤ x ∧ x < 256) : ∀ x, ofL l x < 256 := by
  intro x
  unfold ofL
  split
  · rename_i hx
    have := h _ (List.getElem_mem hx)
    rw [List.getD_eq_getElem?_getD, List.getElem?_eq_getElem hx]
    show l[x].toNat < 256
    omega
  · decide
theorem Bd.foot {w : World} {t g : Nat} {D : Nat → Nat} (h : Bd w t g D) (ok : Nat → Prop) (hg : ok g) : Kd.F (Kd.int .u8) w ok (some ⟨g, 0, none⟩) (outL D).length (outL D) :=
  fun W' hW => (Bd.mk (t := t) ((hW g hg (blk_lt h.out)).trans h.out)).reads
set_option maxHeartbeats 8000000 in
set_option maxRecDepth 100000 in
theorem impl_Walsh.core (A0 : Option Addr) (c0 : Nat) (l0 : List Int) (hn : l0.length ≤ 256) (hl : ∀ x ∈ l0, 0 ≤ x ∧ x < 256) (w : World) (hr0 : Kd.C (Kd.int .u8) w A0 l0.length l0) (hc0 : l0.length ≤ c0) :
    Calls Try.prog 16 #[.slice A0 l0.length c0, .int .i64 (l0.length : Int)] w fun e w' => ∃ v0_ : Value, e = .returned v0_ ∧ Kd.V (Kd.int .u8) 5 w' w.heap.size (fun k_ => w.heap.size ≤ k_) v0_ (outL (fw l0.length (cut (ofL l0)) 4)) ∧ Below w.heap.size w w' := by
  have hu5 := Try.underlying5
  have hu52 := Try.underlying52
  have hu43 := Try.underlying43
  have HR := Aside0.mk hr0
  have HC0 := Aside0.mk hc0
  have HB := Aside0.mk (Below.refl w.heap.size w)
  clear hr0 hc0
  by_cases hz : l0.length = 0
  · obtain rfl := List.eq_nil_of_length_eq_zero hz
    go_enter Try.func16, Try.ntmps16
    go_wp2_with (first | ((with_reducible refine gate_dst (N := 5) rfl ?_); refine box_event ?hg (N := 5) ?hd (cs := bytesV (fun _ => 0)) (t := 52) ?hr ?_; (case hd => rfl); (case hg => rfl); (case hr => first | (go_simp; done) | (go_simp; rfl)); intro g hg w5 hbox hb; (have H5 := Aside0.mk (Bd.mk hbox)); (have GE5 := Aside0.mk (show w.heap.size ≤ g by have := HB.out.size; omega)); (have HB1 := Aside0.mk (below_step HB.out hb)); clear hbox hb hg HB; have HB := HB1; clear HB1) | ((with_reducible refine gate_dst (N := 9) rfl ?_); refine copy_ev rfl (N := 9) rfl (.tmp 7) (.tmp 8) 43 43 5 rfl Try.underlying43 (by kernel_rfl) g 52 ([] : List Int) A0 c0 hn (fun x hx => (hl x hx).1) rfl rfl H5.out (Kd.C_below HR.out HB.out) ?_; intro w9 hd hb; (have H51 := Aside0.mk hd); (have HB1 := Aside0.mk (hb _ _ HB.out GE5.out)); clear hd hb H5 HB; have H5 := H51; have HB := HB1; clear H51 HB1))
    go_loopg [6] (256 - 0) (fun kq v6 w' => ∃ i : Nat, v6 = .int .i64 (i : Int) ∧ Aside0 (i + kq = 256) ∧ Aside0 (0 ≤ i) ∧ Aside0 (Bd w' 52 g (ofL ([] : List Int))) ∧ Aside0 (Below w.heap.size w w'))
    case atStart => exact ⟨0, by first | rfl | simp, ⟨by omega⟩, ⟨Nat.le_refl _⟩, H5, HB⟩
    case round =>
      clear H5 HB
      obtain ⟨i, rfl, HI, HMI, H5, HB⟩ := hrel
      by_cases c1 : i < 256
      · have hmd := decide_eq_true (show (i : Int) < 256 by omega)
        have hlt := eq_true (show (i : Int) < 256 by omega)
        have hc := H5.out.cell i c1
        have hf := H5.out.frozen i
        go_wp2
        have H51 := Aside0.mk (H5.out.set i 0)
        have HB1 := Aside0.mk (below_set (j := i) (v := .int .u8 ((0 : Nat) : Int)) HB.out GE5.out)
        go_roundg (255 - i)
        case measure => have := HI.out; omega
        case rel =>
          refine ⟨i + 1, rfl, ⟨by omega⟩, ⟨by have := HMI.out; omega⟩, ⟨H51.out.congr fun x _ => ?_⟩, HB1⟩
          show (if x = i then 0 else ofL ([] : List Int) x) = ofL ([] : List Int) x
          by_cases e : x = i
          · subst e
            rw [if_pos rfl]
            unfold ofL
            rw [if_neg (by first | (simp; done) | (have := HMI.out; omega))]
          · rw [if_neg e]
      · have hmd := decide_eq_false (show ¬ (i : Int) < 256 by omega)
        go_wp2_with (first | ((with_reducible refine gate_dst (N := 20) rfl ?_); refine wpList_load_row rfl 52 (.tmp 5) rfl g rfl 52 _ (0, 0) _ H5.out.out Try.underlying52 rfl (by rw [bytesV_size]; kernel_rfl) ?_) | ((with_reducible refine gate_callee (f := 24) rfl ?_); refine goesL_ (some 22) rfl rfl Try.func24 (by kernel_rfl) rfl #[.agg (bytesV (ofL ([] : List Int))), .int .i64 (((0 : Nat)) : Int)] rfl (by (try simp only [List.map_toArray, List.map_cons, List.map_nil]); first | done | rfl) ?_; (with_reducible refine (reedsolomon_DoorWalsh.calls (ofL ([] : List Int)) 0 (by first | omega | simp) (ofL_lt hl) _).mono ?_); rintro e6 w6 ⟨rfl, hb⟩; refine ⟨_, rfl, ?_⟩; (have H51 := Aside0.mk (H5.out.below hb)); (have HB1 := Aside0.mk (below_step HB.out hb)); clear hb H5 HB; have H5 := H51; have HB := HB1; clear H51 HB1) | ((with_reducible refine gate_store (t := 52) (p := 5) rfl ?_); refine wpList_store_row rfl 52 (.tmp 5) (.tmp 22) rfl g (bytesV (fw 0 (cut (ofL ([] : List Int))) 4)) rfl rfl 52 _ H5.out.out (by rw [bytesV_size]; kernel_rfl) (by rw [bytesV_size, bytesV_size]) (bytesV_one _) ?_))
        have HBE := below_row HB.out GE5.out (bytesV (fw 0 (cut (ofL ([] : List Int))) 4))
        have HRE := setRow_heap w6 g _ (bytesV (fw 0 (cut (ofL ([] : List Int))) 4)) _ _ H5.out.out
        go_ret
        refine ⟨_, rfl, ?_, HBE⟩
        have hV := Bd.foot (Bd.mk HRE) (fun k_ => w.heap.size ≤ k_) GE5.out
        rw [← outL_length (fw 0 (cut (ofL ([] : List Int))) 4)]
        exact Kd.V_mk (Nat.le_refl _) hV
  · have h256 : ((256 : Int) < (l0.length : Int)) = False := eq_false (by omega)
    have hpos : ((0 : Int) < (l0.length : Int)) = True := eq_true (by omega)
    go_enter Try.func16, Try.ntmps16
    go_wp2_with (first | ((with_reducible refine gate_dst (N := 5) rfl ?_); refine box_event ?hg (N := 5) ?hd (cs := bytesV (fun _ => 0)) (t := 52) ?hr ?_; (case hd => rfl); (case hg => rfl); (case hr => first | (go_simp; done) | (go_simp; rfl)); intro g hg w5 hbox hb; (have H5 := Aside0.mk (Bd.mk hbox)); (have GE5 := Aside0.mk (show w.heap.size ≤ g by have := HB.out.size; omega)); (have HB1 := Aside0.mk (below_step HB.out hb)); clear hbox hb hg HB; have HB := HB1; clear HB1) | ((with_reducible refine gate_dst (N := 9) rfl ?_); refine copy_ev rfl (N := 9) rfl (.tmp 7) (.tmp 8) 43 43 5 rfl Try.underlying43 (by kernel_rfl) g 52 l0 A0 c0 hn (fun x hx => (hl x hx).1) rfl rfl H5.out (Kd.C_below HR.out HB.out) ?_; intro w9 hd hb; (have H51 := Aside0.mk hd); (have HB1 := Aside0.mk (hb _ _ HB.out GE5.out)); clear hd hb H5 HB; have H5 := H51; have HB := HB1; clear H51 HB1))
    go_loopg [6] (256 - l0.length) (fun kq v6 w' => ∃ i : Nat, v6 = .int .i64 (i : Int) ∧ Aside0 (i + kq = 256) ∧ Aside0 (l0.length ≤ i) ∧ Aside0 (Bd w' 52 g (ofL l0)) ∧ Aside0 (Below w.heap.size w w'))
    case atStart => exact ⟨l0.length, by first | rfl | simp, ⟨by omega⟩, ⟨Nat.le_refl _⟩, H5, HB⟩
    case round =>
      clear H5 HB
      obtain ⟨i, rfl, HI, HMI, H5, HB⟩ := hrel
      by_cases c1 : i < 256
      · have hmd := decide_eq_true (show (i : Int) < 256 by omega)
        have hlt := eq_true (show (i : Int) < 256 by omega)
        have hc := H5.out.cell i c1
        have hf := H5.out.frozen i
        go_wp2
        have H51 := Aside0.mk (H5.out.set i 0)
        have HB1 := Aside0.mk (below_set (j := i) (v := .int .u8 ((0 : Nat) : Int)) HB.out GE5.out)
        go_roundg (255 - i)
        case measure => have := HI.out; omega
        case rel =>
          refine ⟨i + 1, rfl, ⟨by omega⟩, ⟨by have := HMI.out; omega⟩, ⟨H51.out.congr fun x _ => ?_⟩, HB1⟩
          show (if x = i then 0 else ofL l0 x) = ofL l0 x
          by_cases e : x = i
          · subst e
            rw [if_pos rfl]
            unfold ofL
            rw [if_neg (by first | (simp; done) | (have := HMI.out; omega))]
          · rw [if_neg e]
      · have hmd := decide_eq_false (show ¬ (i : Int) < 256 by omega)
        go_wp2_with (first | ((with_reducible refine gate_dst (N := 20) rfl ?_); refine wpList_load_row rfl 52 (.tmp 5) rfl g rfl 52 _ (0, 0) _ H5.out.out Try.underlying52 rfl (by rw [bytesV_size]; kernel_rfl) ?_) | ((with_reducible refine gate_callee (f := 24) rfl ?_); refine goesL_ (some 22) rfl rfl Try.func24 (by kernel_rfl) rfl #[.agg (bytesV (ofL l0)), .int .i64 (((l0.length : Nat)) : Int)] rfl (by (try simp only [List.map_toArray, List.map_cons, List.map_nil]); first | done | rfl) ?_; (with_reducible refine (reedsolomon_DoorWalsh.calls (ofL l0) l0.length (by first | omega | simp) (ofL_lt hl) _).mono ?_); rintro e6 w6 ⟨rfl, hb⟩; refine ⟨_, rfl, ?_⟩; (have H51 := Aside0.mk (H5.out.below hb)); (have HB1 := Aside0.mk (below_step HB.out hb)); clear hb H5 HB; have H5 := H51; have HB := HB1; clear H51 HB1) | ((with_reducible refine gate_store (t := 52) (p := 5) rfl ?_); refine wpList_store_row rfl 52 (.tmp 5) (.tmp 22) rfl g (bytesV (fw l0.length (cut (ofL l0)) 4)) rfl rfl 52 _ H5.out.out (by rw [bytesV_size]; kernel_rfl) (by rw [bytesV_size, bytesV_size]) (bytesV_one _) ?_))
        have HBE := below_row HB.out GE5.out (bytesV (fw l0.length (cut (ofL l0)) 4))
        have HRE := setRow_heap w6 g _ (bytesV (fw l0.length (cut (ofL l0)) 4)) _ _ H5.out.out
        go_ret
        refine ⟨_, rfl, ?_, HBE⟩
        have hV := Bd.foot (Bd.mk HRE) (fun k_ => w.heap.size ≤ k_) GE5.out
        rw [← outL_length (fw l0.length (cut (ofL l0)) 4)]
        exact Kd.V_mk (Nat.le_refl _) hV
theorem impl_Walsh.calls (A0 : Option Addr) (c0 : Nat) (l0 : List Int) (a1 : Int) (r : List Int) (w : World) (hr0 : Kd.C (Kd.int .u8) w A0 l0.length l0) (hc0 : l0.length ≤ c0) (h : impl_Walsh.f l0 a1 = some r) :
    Calls Try.prog 16 #[.slice A0 l0.length c0, .int .i64 a1] w fun e w' => ∃ v0_ : Value, e = .returned v0_ ∧ Kd.V (Kd.int .u8) 5 w' w.heap.size (fun k_ => w.heap.size ≤ k_) v0_ r ∧ Below w.heap.size w w' := by
  unfold impl_Walsh.f at h
  split at h
  · rename_i hc
    obtain ⟨h1, h2, rfl⟩ := hc
    obtain rfl := Option.some.inj h
    exact impl_Walsh.core A0 c0 l0 h1 h2 w hr0 hc0
  · cases h

/-! ### laws_mod: function 17 -/
def laws_mod.f (a0 : Int) : Option (Int) := some (Int.tmod (wrap64 ((Int.tmod a0 255) + 255)) 255)
set_option maxHeartbeats 8000000 in
set_option maxRecDepth 100000 in
theorem laws_mod.calls (a0 : Int) (r : Int) (w : World) (h : laws_mod.f a0 = some r) :
    Calls Try.prog 17 #[.int .i64 a0] w fun e w' => e = .returned (.int .i64 r) ∧ Drawn0 w w' := by
  have H : (some (Int.tmod (wrap64 ((Int.tmod a0 255) + 255)) 255)) = some r := h
  clear h
  obtain rfl := Option.some.inj H
  go_enter Try.func17, Try.ntmps17
  go_wp2
  go_ret
  exact ⟨by first | rfl | (simp; done) | (simp [*]; done), by repeat (first | exact Drawn0.refl _ | apply Drawn0.step)⟩

/-! ### laws_signs: function 18 -/
mutual
def laws_signs.l0 : Nat → Int → Int → List Int → Int → Int → Option (Int)
  | 0, _, _, _, _, _ => none
  | k + 1, x1, x5, x10, x11, x12 => if x12 < x11 then (if 0 ≤ x12 then (if x12 < (x10.length : Int) then (laws_signs.l1 k x1 x5 (rd x10 x12) false (Go.bits .and .i64 x12 x1) x10 x11 x12) else (none)) else (none)) else (some x5)
def laws_signs.l1 : Nat → Int → Int → Int → Bool → Int → List Int → Int → Int → Option (Int)
  | 0, _, _, _, _, _, _, _, _ => none
  | k + 1, x1, x5, x7, x8, x9, x10, x11, x12 => if x9 > 0 then (laws_signs.l1 k x1 x5 x7 (!x8) (Go.bits .and .i64 x9 (wrap64 (x9 - 1))) x10 x11 x12) else (if x8 = true then (laws_signs.l0 k x1 (wrap64 (x5 - (wrap64 (x7)))) x10 x11 (wrap64 (x12 + 1))) else (laws_signs.l0 k x1 (wrap64 (x5 + (wrap64 (x7)))) x10 x11 (wrap64 (x12 + 1))))
end
def laws_signs.f (k : Nat) (l0 : List Int) (a1 : Int) : Option (Int) := laws_signs.l0 k a1 0 l0 (l0.length : Int) 0
theorem laws_signs.mono_l : ∀ k, (∀ y0 y1 y2 y3 y4, LeO (laws_signs.l0 k y0 y1 y2 y3 y4) (laws_signs.l0 (k + 1) y0 y1 y2 y3 y4)) ∧ (∀ y0 y1 y2 y3 y4 y5 y6 y7, LeO (laws_signs.l1 k y0 y1 y2 y3 y4 y5 y6 y7) (laws_signs.l1 (k + 1) y0 y1 y2 y3 y4 y5 y6 y7))
  | 0 => ⟨fun _ _ _ _ _ r h => by simp [laws_signs.l0] at h, fun _ _ _ _ _ _ _ _ r h => by simp [laws_signs.l1] at h⟩
  | k + 1 => by
    obtain ⟨ih0, ih1⟩ := laws_signs.mono_l k
    refine ⟨?_, ?_⟩
    · intro y0 y1 y2 y3 y4
      unfold laws_signs.l0
      repeat' first
      | (with_reducible exact ih0 _ _ _ _ _)
      | (with_reducible exact ih1 _ _ _ _ _ _ _ _)
      | (with_reducible exact LeO.refl _)
      | (with_reducible exact LeO.none _)
      | (with_reducible refine LeO.ite ?_ ?_)
      | (with_reducible refine LeO.bind ?_ (fun _ => ?_))
      | exact ih0 _ _ _ _ _
      | exact ih1 _ _ _ _ _ _ _ _
      | exact LeO.none _
      | refine LeO.ite ?_ ?_
      | refine LeO.bind ?_ (fun _ => ?_)
    · intro y0 y1 y2 y3 y4 y5 y6 y7
      unfold laws_signs.l1
      repeat' first
      | (with_reducible exact ih0 _ _ _ _ _)
      | (with_reducible exact ih1 _ _ _ _ _ _ _ _)
      | (with_reducible exact LeO.refl _)
      | (with_reducible exact LeO.none _)
      | (with_reducible refine LeO.ite ?_ ?_)
      | (with_reducible refine LeO.bind ?_ (fun _ => ?_))
      | exact ih0 _ _ _ _ _
      | exact ih1 _ _ _ _ _ _ _ _
      | exact LeO.none _
      | refine LeO.ite ?_ ?_
      | refine LeO.bind ?_ (fun _ => ?_)
theorem laws_signs.mono : ∀ a0 a1 k, LeO (laws_signs.f k a0 a1) (laws_signs.f (k + 1) a0 a1) := by
  intro a0 a1 k
  obtain ⟨ih0, ih1⟩ := laws_signs.mono_l k
  unfold laws_signs.f
  repeat' first
      | (with_reducible exact ih0 _ _ _ _ _)
      | (with_reducible exact ih1 _ _ _ _ _ _ _ _)
      | (with_reducible exact LeO.refl _)
      | (with_reducible exact LeO.none _)
      | (with_reducible refine LeO.ite ?_ ?_)
      | (with_reducible refine LeO.bind ?_ (fun _ => ?_))
      | exact ih0 _ _ _ _ _
      | exact ih1 _ _ _ _ _ _ _ _
      | exact LeO.none _
      | refine LeO.ite ?_ ?_
      | refine LeO.bind ?_ (fun _ => ?_)
set_option maxHeartbeats 8000000 in
set_option maxRecDepth 100000 in
theorem laws_signs.calls (k : Nat) (A0 : Option Addr) (c0 : Nat) (l0 : List Int) (a1 : Int) (r : Int) (w : World) (hr0 : Kd.C (Kd.int .u8) w A0 l0.length l0) (hc0 : l0.length ≤ c0) (h : laws_signs.f k l0 a1 = some r) :
    Calls Try.prog 18 #[.slice A0 l0.length c0, .int .i64 a1] w fun e w' => e = .returned (.int .i64 r) ∧ Drawn0 w w' := by
  have HR0 := Aside0.mk hr0
  have HC0 := Aside0.mk hc0
  clear hr0 hc0
  have H : (laws_signs.l0 k a1 0 l0 (l0.length : Int) 0) = some r := h
  clear h
  have H' := Aside0.mk H
  clear H
  go_enter Try.func18, Try.ntmps18
  go_wp2
  try simp only [Act.put, List.setIfInBounds_toArray, List.set_cons_zero, List.set_cons_succ]
  go_loopg [5, 12] k (fun kq v5 v12 w' => ∃ (x5_1 : Int) (x12_1 : Int), v5 = .int .i64 x5_1 ∧ v12 = .int .i64 x12_1 ∧ Aside0 (laws_signs.l0 kq a1 x5_1 l0 (l0.length : Int) x12_1 = some r) ∧ Aside0 (kq ≤ k) ∧ Drawn0 w w')
  case atStart => exact ⟨(0), (0), (by first | rfl | (simp; done) | (simp [*]; done)), (by first | rfl | (simp; done) | (simp [*]; done)), H', ⟨Nat.le_refl _⟩, by repeat (first | exact Drawn0.refl _ | apply Drawn0.step)⟩
  case round =>
    clear H'
    try clear c1
    try clear p2
    obtain ⟨x5_1, x12_1, rfl, rfl, HA, HK1, ⟨m1, rfl⟩⟩ := hrel
    cases gk with
    | zero => exact absurd HA.out (by simp [laws_signs.l0])
    | succ k1 =>
      have H := HA.out
      clear HA
      simp only [laws_signs.l0] at H
      by_cases c3 : x12_1 < (l0.length : Int)
      · rw [if_pos c3] at H
        have c3b0 : decide (x12_1 < (l0.length : Int)) = true := decide_eq_true c3
        clear c3
        by_cases c4 : 0 ≤ x12_1
        · rw [if_pos c4] at H
          have c4b0 : decide (0 ≤ x12_1) = true := decide_eq_true c4
          clear c4
          by_cases c5 : x12_1 < (l0.length : Int)
          · rw [if_pos c5] at H
            have c5b0 : decide (x12_1 < (l0.length : Int)) = true := decide_eq_true c5
            clear c5
            have H' := Aside0.mk H
            clear H
            have p103 : 0 ≤ (x12_1 : Int) := of_decide_eq_true (by first | (with_reducible assumption) | assumption)
            have q103 : x12_1 < (l0.length : Int) := of_decide_eq_true (by first | (with_reducible assumption) | assumption)
            obtain ⟨ad103, e103, hx103_0⟩ := Kd.at_int HR0.out x12_1 p103 q103
            cases e103
            replace p103 := eq_true p103
            replace q103 := eq_true q103
            go_wp2
            try simp only [Act.put, List.setIfInBounds_toArray, List.set_cons_zero, List.set_cons_succ]
            go_loopg [8, 9] k1 (fun kq v8 v9 w' => ∃ (x8_2 : Bool) (x9_2 : Int), v8 = .bool x8_2 ∧ v9 = .int .i64 x9_2 ∧ Aside0 (laws_signs.l1 kq a1 x5_1 (rd l0 x12_1) x8_2 x9_2 l0 (l0.length : Int) x12_1 = some r) ∧ Aside0 (kq ≤ k1) ∧ Drawn0 w w')
            case atStart => exact ⟨(false), (Go.bits .and .i64 x12_1 a1), (by first | rfl | (simp; done) | (simp [*]; done)), (by first | rfl | (simp; done) | (simp [*]; done)), H', ⟨Nat.le_refl _⟩, by repeat (first | exact Drawn0.refl _ | apply Drawn0.step)⟩
            case round =>
              clear H'
              try clear c1
              try clear p1
              try clear q1
              try clear hx1
              try clear p2
              try clear c3
              try clear c3b0
              try clear c4
              try clear c4b0
              try clear c5
              try clear c5b0
              try clear hx103_0
              try clear p103
              try clear p2
              try clear q103
              obtain ⟨x8_2, x9_2, rfl, rfl, HA, HK2, ⟨m2, rfl⟩⟩ := hrel
              cases gk with
              | zero => exact absurd HA.out (by simp [laws_signs.l1])
              | succ k2 =>
                have H := HA.out
                clear HA
                simp only [laws_signs.l1] at H
                by_cases c6 : x9_2 > 0
                · rw [if_pos c6] at H
                  have c6b0 : decide (0 < x9_2) = true := decide_eq_true c6
                  clear c6
                  have H' := Aside0.mk H
                  clear H
                  go_wp2
                  go_roundg k2
                  case measure => have := HK1.out; have := HK2.out; omega
                  case rel => exact ⟨(!x8_2), (Go.bits .and .i64 x9_2 (wrap64 (x9_2 - 1))), (by first | rfl | (simp; done) | (simp [*]; done)), (by first | rfl | (simp; done) | (simp [*]; done)), H', ⟨by have := HK1.out; have := HK2.out; omega⟩, by repeat (first | exact Drawn0.refl _ | apply Drawn0.step)⟩
                · rw [if_neg c6] at H
                  have c6b0 : decide (0 < x9_2) = false := decide_eq_false c6
                  clear c6
                  by_cases c7 : x8_2 = true
                  · subst c7
                    have H1 : (laws_signs.l0 k2 a1 (wrap64 (x5_1 - (wrap64 ((rd l0 x12_1))))) l0 (l0.length : Int) (wrap64 (x12_1 + 1))) = some r := by rw [if_pos rfl] at H; exact H
                    clear H
                    have H := H1
                    clear H1
                    have H' := Aside0.mk H
                    clear H
                    go_wp2
                    go_roundg k2
                    case measure => have := HK1.out; have := HK2.out; omega
                    case rel => exact ⟨(wrap64 (x5_1 - (wrap64 ((rd l0 x12_1))))), (wrap64 (x12_1 + 1)), (by first | rfl | (simp; done) | (simp [*]; done)), (by first | rfl | (simp; done) | (simp [*]; done)), H', ⟨by have := HK1.out; have := HK2.out; omega⟩, by repeat (first | exact Drawn0.refl _ | apply Drawn0.step)⟩
                  · replace c7 := Bool.eq_false_iff.mpr c7
                    subst c7
                    have H1 : (laws_signs.l0 k2 a1 (wrap64 (x5_1 + (wrap64 ((rd l0 x12_1))))) l0 (l0.length : Int) (wrap64 (x12_1 + 1))) = some r := by rw [if_neg (show ¬ (false = true) by decide)] at H; exact H
                    clear H
                    have H := H1
                    clear H1
                    have H' := Aside0.mk H
                    clear H
                    go_wp2
                    go_roundg k2
                    case measure => have := HK1.out; have := HK2.out; omega
                    case rel => exact ⟨(wrap64 (x5_1 + (wrap64 ((rd l0 x12_1))))), (wrap64 (x12_1 + 1)), (by first | rfl | (simp; done) | (simp [*]; done)), (by first | rfl | (simp; done) | (simp [*]; done)), H', ⟨by have := HK1.out; have := HK2.out; omega⟩, by repeat (first | exact Drawn0.refl _ | apply Drawn0.step)⟩
          · rw [if_neg c5] at H
            exact absurd H (by simp)
        · rw [if_neg c4] at H
          exact absurd H (by simp)
      · rw [if_neg c3] at H
        have c3b0 : decide (x12_1 < (l0.length : Int)) = false := decide_eq_false c3
        clear c3
        obtain rfl := Option.some.inj H
        go_wp2
        go_ret
        exact ⟨by first | rfl | (simp; done) | (simp [*]; done), by repeat (first | exact Drawn0.refl _ | apply Drawn0.step)⟩

/-! ### laws_FnWalsh: function 7 -/
def laws_FnWalsh.f (k : Nat) (l0 : List Int) (a1 : Int) : Option (Bool) := if (l0.length : Int) > 2147483647 then (some true) else (if (l0.length : Int) > 256 then (some true) else ((impl_Walsh.f l0 (l0.length : Int)).bind fun t104 => (if (t104.length : Int) = 256 then (if 0 ≤ a1 then (if a1 < (t104.length : Int) then ((laws_mod.f (wrap64 (rd t104 a1))).bind fun t108 => ((laws_signs.f k l0 (wrap64 (a1))).bind fun t109 => ((laws_mod.f t109).bind fun t110 => (some (t108 == t110))))) else (none)) else (none)) else (some false))))
theorem laws_FnWalsh.mono : ∀ a0 a1 k, LeO (laws_FnWalsh.f k a0 a1) (laws_FnWalsh.f (k + 1) a0 a1) := by
  intro a0 a1 k
  unfold laws_FnWalsh.f
  repeat' first
      | (with_reducible exact laws_signs.mono _ _ _)
      | (with_reducible exact LeO.refl _)
      | (with_reducible exact LeO.none _)
      | (with_reducible refine LeO.ite ?_ ?_)
      | (with_reducible refine LeO.bind ?_ (fun _ => ?_))
      | exact laws_signs.mono _ _ _
      | exact LeO.none _
      | refine LeO.ite ?_ ?_
      | refine LeO.bind ?_ (fun _ => ?_)
set_option maxHeartbeats 8000000 in
set_option maxRecDepth 100000 in
theorem laws_FnWalsh.calls (k : Nat) (A0 : Option Addr) (c0 : Nat) (l0 : List Int) (a1 : Int) (r : Bool) (w : World) (hr0 : Kd.C (Kd.int .u8) w A0 l0.length l0) (hc0 : l0.length ≤ c0) (h : laws_FnWalsh.f k l0 a1 = some r) :
    Calls Try.prog 7 #[.slice A0 l0.length c0, .int .u8 a1] w fun e w' => e = .returned (.bool r) ∧ Below w.heap.size w w' := by
  have HR0 := Aside0.mk hr0
  have HC0 := Aside0.mk hc0
  clear hr0 hc0
  have HB := Aside0.mk (Below.refl w.heap.size w)
  have H : (if (l0.length : Int) > 2147483647 then (some true) else (if (l0.length : Int) > 256 then (some true) else ((impl_Walsh.f l0 (l0.length : Int)).bind fun t104 => (if (t104.length : Int) = 256 then (if 0 ≤ a1 then (if a1 < (t104.length : Int) then ((laws_mod.f (wrap64 (rd t104 a1))).bind fun t108 => ((laws_signs.f k l0 (wrap64 (a1))).bind fun t109 => ((laws_mod.f t109).bind fun t110 => (some (t108 == t110))))) else (none)) else (none)) else (some false))))) = some r := h
  clear h
  by_cases c3 : (l0.length : Int) > 2147483647
  · rw [if_pos c3] at H
    have c3b0 : decide (2147483647 < (l0.length : Int)) = true := decide_eq_true c3
    have c3b1 : decide (2147483647 < l0.length) = true := decide_eq_true (by omega)
    clear c3
    obtain rfl := Option.some.inj H
    go_enter Try.func7, Try.ntmps7
    go_wp2
    go_ret
    exact ⟨by first | rfl | (simp [errW_none, errW_some] <;> rfl) | (simp [*, errW_none, errW_some] <;> rfl), by repeat (first | (with_reducible first | exact HB.out | apply below_alloc | apply pw_below_drewN | apply below_drew1) | exact HB.out)⟩
  · rw [if_neg c3] at H
    have c3b0 : decide (2147483647 < (l0.length : Int)) = false := decide_eq_false c3
    have c3b1 : decide (2147483647 < l0.length) = false := decide_eq_false (by omega)
    clear c3
    by_cases c4 : (l0.length : Int) > 256
    · rw [if_pos c4] at H
      have c4b0 : decide (256 < (l0.length : Int)) = true := decide_eq_true c4
      have c4b1 : decide (256 < l0.length) = true := decide_eq_true (by omega)
      clear c4
      obtain rfl := Option.some.inj H
      go_enter Try.func7, Try.ntmps7
      go_wp2
      go_ret
      exact ⟨by first | rfl | (simp [errW_none, errW_some] <;> rfl) | (simp [*, errW_none, errW_some] <;> rfl), by repeat (first | (with_reducible first | exact HB.out | apply below_alloc | apply pw_below_drewN | apply below_drew1) | exact HB.out)⟩
    · rw [if_neg c4] at H
      have c4b0 : decide (256 < (l0.length : Int)) = false := decide_eq_false c4
      have c4b1 : decide (256 < l0.length) = false := decide_eq_false (by omega)
      clear c4
      replace H := Option.bind_eq_some_iff.mp H
      obtain ⟨t104, A50, H⟩ := H
      replace H : (if (t104.length : Int) = 256 then (if 0 ≤ a1 then (if a1 < (t104.length : Int) then ((laws_mod.f (wrap64 (rd t104 a1))).bind fun t108 => ((laws_signs.f k l0 (wrap64 (a1))).bind fun t109 => ((laws_mod.f t109).bind fun t110 => (some (t108 == t110))))) else (none)) else (none)) else (some false)) = some r := H
      have A5 := Aside0.mk A50
      clear A50
      by_cases c6 : (t104.length : Int) = 256
      · rw [if_pos c6] at H
        have c6b0 : ((t104.length : Int) == 256) = true := beq_iff_eq.mpr c6
        have c6b1 : ((t104.length : Int) != 256) = false := bne_eq_false_iff_eq.mpr c6
        clear c6
        by_cases c7 : 0 ≤ a1
        · rw [if_pos c7] at H
          have c7b0 : decide (0 ≤ a1) = true := decide_eq_true c7
          clear c7
          by_cases c8 : a1 < (t104.length : Int)
          · rw [if_pos c8] at H
            have c8b0 : decide (a1 < (t104.length : Int)) = true := decide_eq_true c8
            clear c8
            replace H := Option.bind_eq_some_iff.mp H
            obtain ⟨t108, A90, H⟩ := H
            replace H : ((laws_signs.f k l0 (wrap64 (a1))).bind fun t109 => ((laws_mod.f t109).bind fun t110 => (some (t108 == t110)))) = some r := H
            have A9 := Aside0.mk A90
            clear A90
            replace H := Option.bind_eq_some_iff.mp H
            obtain ⟨t109, A100, H⟩ := H
            replace H : ((laws_mod.f t109).bind fun t110 => (some (t108 == t110))) = some r := H
            have A10 := Aside0.mk A100
            clear A100
            replace H := Option.bind_eq_some_iff.mp H
            obtain ⟨t110, A110, H⟩ := H
            replace H : (some (t108 == t110)) = some r := H
            have A11 := Aside0.mk A110
            clear A110
            obtain rfl := Option.some.inj H
            go_enter Try.func7, Try.ntmps7
            go_wp2_with (first | ((with_reducible refine gate_callee (f := 16) rfl ?_); refine goesL_ (some 15) rfl rfl Try.func16 (by kernel_rfl) rfl #[.slice A0 l0.length c0, .int .i64 (l0.length : Int)] rfl (by (try simp only [List.map_toArray, List.map_cons, List.map_nil]); first | done | rfl | (simp only [List.length_drop, List.length_take]; rfl)) ?_; (with_reducible refine (impl_Walsh.calls _ _ l0 (l0.length : Int) t104 _ ?side1 ?side2 A5.out).mono ?_); (case side1 => repeat (first | exact HR0.out | (with_reducible refine Kd.C_alloc ?_ _) | (with_reducible refine Kd.C_drewN ?_ _) | (with_reducible refine Kd.C_drew ?_))); (case side2 => exact HC0.out); rintro e w12 ⟨v105, rfl, ho0, hb⟩; refine ⟨_, rfl, ?_⟩; have n0_ := Aside0.mk (Kd.V_lower (Kd.V_mono (ok' := fun k_ => True) ho0 (fun k_ hk_ => trivial)) (below_size (by repeat (first | (with_reducible first | exact HB.out | apply below_alloc | apply pw_below_drewN | apply below_drew1) | exact HB.out)))); have n1_ := Aside0.mk (below_step (by repeat (first | (with_reducible first | exact HB.out | apply below_alloc | apply pw_below_drewN | apply below_drew1) | exact HB.out)) hb); clear HB; have HO106 := n0_; have HB := n1_; clear n0_ n1_; (try clear hb); (try clear hb2); (try clear hk); (try clear hi); (try clear ho0); obtain ⟨Ao13, co13, eo13⟩ := Kd.V_slice HO106.out; subst eo13; have p107 : 0 ≤ (a1 : Int) := of_decide_eq_true (by first | (with_reducible assumption) | assumption); have q107 : a1 < (t104.length : Int) := of_decide_eq_true (by first | (with_reducible assumption) | assumption); obtain ⟨ad107, e107, hx107_0⟩ := Kd.at_int (Kd.V_reads' HO106.out).2.2 a1 p107 q107; cases e107; replace p107 := eq_true p107; replace q107 := eq_true q107) | (go_at_call 17; (with_reducible refine (laws_mod.calls (wrap64 (rd t104 a1)) t108 _ A9.out).mono ?_); rintro e w' ⟨rfl, ⟨nd, rfl⟩⟩) | (go_at_call 18; (with_reducible refine (laws_signs.calls k _ _ l0 (wrap64 (a1)) t109 _ ?side1 ?side2 A10.out).mono ?_); (case side1 => repeat (first | exact (Kd.C_below HR0.out (by repeat (first | (with_reducible first | exact HB.out | apply below_alloc | apply pw_below_drewN | apply below_drew1) | exact HB.out))) | (with_reducible refine Kd.C_alloc ?_ _) | (with_reducible refine Kd.C_drewN ?_ _) | (with_reducible refine Kd.C_drew ?_))); (case side2 => exact HC0.out); rintro e w' ⟨rfl, ⟨nd, rfl⟩⟩) | (go_at_call 17; (with_reducible refine (laws_mod.calls t109 t110 _ A11.out).mono ?_); rintro e w' ⟨rfl, ⟨nd, rfl⟩⟩))
            go_ret
            exact ⟨by first | rfl | (simp [errW_none, errW_some] <;> rfl) | (simp [*, errW_none, errW_some] <;> rfl), by repeat (first | (with_reducible first | exact HB.out | apply below_alloc | apply pw_below_drewN | apply below_drew1) | exact HB.out)⟩
          · rw [if_neg c8] at H
            exact absurd H (by simp)
        · rw [if_neg c7] at H
          exact absurd H (by simp)
      · rw [if_neg c6] at H
        have c6b0 : ((t104.length : Int) == 256) = false := beq_eq_false_iff_ne.mpr c6
        have c6b1 : ((t104.length : Int) != 256) = true := bne_iff_ne.mpr c6
        obtain rfl := Option.some.inj H
        go_enter Try.func7, Try.ntmps7
        go_wp2_with (first | ((with_reducible refine gate_callee (f := 16) rfl ?_); refine goesL_ (some 15) rfl rfl Try.func16 (by kernel_rfl) rfl #[.slice A0 l0.length c0, .int .i64 (l0.length : Int)] rfl (by (try simp only [List.map_toArray, List.map_cons, List.map_nil]); first | done | rfl | (simp only [List.length_drop, List.length_take]; rfl)) ?_; (with_reducible refine (impl_Walsh.calls _ _ l0 (l0.length : Int) t104 _ ?side1 ?side2 A5.out).mono ?_); (case side1 => repeat (first | exact HR0.out | (with_reducible refine Kd.C_alloc ?_ _) | (with_reducible refine Kd.C_drewN ?_ _) | (with_reducible refine Kd.C_drew ?_))); (case side2 => exact HC0.out); rintro e w14 ⟨v105, rfl, ho0, hb⟩; refine ⟨_, rfl, ?_⟩; have n0_ := Aside0.mk (Kd.V_lower (Kd.V_mono (ok' := fun k_ => True) ho0 (fun k_ hk_ => trivial)) (below_size (by repeat (first | (with_reducible first | exact HB.out | apply below_alloc | apply pw_below_drewN | apply below_drew1) | exact HB.out)))); have n1_ := Aside0.mk (below_step (by repeat (first | (with_reducible first | exact HB.out | apply below_alloc | apply pw_below_drewN | apply below_drew1) | exact HB.out)) hb); clear HB; have HO106 := n0_; have HB := n1_; clear n0_ n1_; (try clear hb); (try clear hb2); (try clear hk); (try clear hi); (try clear ho0); obtain ⟨Ao15, co15, eo15⟩ := Kd.V_slice HO106.out; subst eo15))
        go_ret
        exact ⟨by first | rfl | (simp [errW_none, errW_some] <;> rfl) | (simp [*, errW_none, errW_some] <;> rfl), by repeat (first | (with_reducible first | exact HB.out | apply below_alloc | apply pw_below_drewN | apply below_drew1) | exact HB.out)⟩

/-- THE ONE PURE STATEMENT of laws_FnWalsh: yours. -/
def laws_FnWalsh.Pure : Prop := ∀ (l0 : List Int) (a1 : Int), l0.length ≤ maxLen → l0.length * 1 ≤ 140737488351232 → (∀ x ∈ l0, (Lit.int .u8 x).wf = true) → (Lit.int .u8 a1).wf = true → ∃ k, laws_FnWalsh.f k l0 a1 = some true
theorem laws_FnWalsh.walk (P : laws_FnWalsh.Pure) (a0 : Option Addr) (len0 cap0 : Nat) (z0 : List Int) (a1 : Int) (w : World) (w0 : (a0 = none ∧ len0 = 0 ∧ cap0 = 0 ∧ z0 = []) ∨ ∃ x, a0 = some x ∧ len0 ≤ cap0 ∧ cap0 ≤ maxLen ∧ z0.length = cap0 ∧ (∀ i, i < z0.length → w.cell? (x.add i) = some (.int .u8 (z0.getD i 0))) ∧ ∀ n ∈ z0, (Lit.int .u8 n).wf = true) (y0 : len0 * 1 ≤ 140737488351232) (w1 : (Lit.int .u8 a1).wf = true) :
    Calls Try.prog 7 #[.slice a0 len0 cap0, .int .u8 a1] w fun e w' => e = .returned (.bool true) ∧ Below w.heap.size w w' := by
  obtain ⟨l0, rfl, hr0, hm0, hw0, hc0⟩ := ReadsInt.ofRowC w0
  obtain ⟨k, h⟩ := P l0 a1 hm0 y0 hw0 w1
  refine (laws_FnWalsh.calls k _ _ l0 a1 true w (Kd.C_of_reads (d := (0 : Int)) (h1 := fun _ => rfl) hr0) hc0 h).mono ?_
  rintro e w' ⟨rfl, hd⟩
  exact ⟨rfl, hd⟩

end Go.Proofs.Ytpeikjnkbjabpaa.H
