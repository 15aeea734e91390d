import Derived.Test.YtpeikjnkbjabpaaDoorSVV0
import Derived.Test.YtpeikjnkbjabpaaDoorSVV3
import Derived.Test.YtpeikjnkbjabpaaDoorSVV4
namespace Go.Proofs.YtpeikjnkbjabpaaDoor.V
open Go.RowKit Go.Proofs.YtpeikjnkbjabpaaDoorW.PrintWords Go.Proofs.YtpeikjnkbjabpaaDoorW.PrintLast Go.Proofs.YtpeikjnkbjabpaaDoorW.PrintMore
attribute [local go_sem] max2_int min2_int max_two min_two max_three min_three max_four min_four   -- for this text's walks alone
set_option linter.unusedVariables false
set_option linter.unusedSimpArgs false
def addR (M : Nat → Nat → Nat) (i r s : Nat) : Nat → Nat → Nat := fun i' j => if i' = i then M i j ^^^ gmul s (M r j) else M i' j
def sclR (M : Nat → Nat → Nat) (r s : Nat) : Nat → Nat → Nat := fun i' j => if i' = r then gmul (M r j) s else M i' j
def swpR (M : Nat → Nat → Nat) (p q : Nat) : Nat → Nat → Nat := fun i j => if i = p then M q j else if i = q then M p j else M i j
def pvR (M : Nat → Nat → Nat) (r : Nat) : Nat → Nat → Option Nat
  | _, 0 => none
  | k, d + 1 => if M k r = 0 then pvR M r (k + 1) d else some k
def dnR (M : Nat → Nat → Nat) (r : Nat) : Nat → Nat → Nat → Nat
  | 0 => M
  | k + 1 => if dnR M r k (r + 1 + k) r = 0 then dnR M r k else addR (dnR M r k) (r + 1 + k) r (dnR M r k (r + 1 + k) r)
def oneR (M : Nat → Nat → Nat) (r : Nat) : Nat → Nat → Nat := if M r r = 1 then M else sclR M r (ginv (M r r))
def ph1 (n : Nat) (M : Nat → Nat → Nat) : Nat → Option (Nat → Nat → Nat)
  | 0 => some M
  | r + 1 => (ph1 n M r).bind fun M1 => (pvR M1 r r (n - r)).bind fun p => some (dnR (oneR (swpR M1 r p) r) r (n - (r + 1)))
def upR (M : Nat → Nat → Nat) (d : Nat) : Nat → Nat → Nat → Nat
  | 0 => M
  | k + 1 => if upR M d k k d = 0 then upR M d k else addR (upR M d k) k d (upR M d k k d)
def ph2 (M : Nat → Nat → Nat) : Nat → Nat → Nat → Nat
  | 0 => M
  | d + 1 => upR (ph2 M d) d d
def gaussR (n : Nat) (M : Nat → Nat → Nat) : Option (Nat → Nat → Nat) := (ph1 n M n).bind fun M1 => some (ph2 M1 n)
theorem gmul_lt (a b : Nat) : gmul a b < 256 := by
  have ha := glog_lt a
  have hb := glog_lt b
  unfold gmul
  split
  · decide
  · split
    · exact gpow_lt _ (by omega)
    · exact gpow_lt _ (by omega)
theorem xor_lt (a b : Nat) (ha : a < 256) (hb : b < 256) : a ^^^ b < 256 := Nat.xor_lt_two_pow (n := 8) ha hb
theorem addR_lt {M : Nat → Nat → Nat} (h : ∀ i j, M i j < 256) (i r s : Nat) : ∀ i' j, addR M i r s i' j < 256 := by
  intro i' j
  unfold addR
  split
  · exact xor_lt _ _ (h _ _) (gmul_lt _ _)
  · exact h _ _
theorem sclR_lt {M : Nat → Nat → Nat} (h : ∀ i j, M i j < 256) (r s : Nat) : ∀ i' j, sclR M r s i' j < 256 := by
  intro i' j
  unfold sclR
  split
  · exact gmul_lt _ _
  · exact h _ _
theorem swpR_lt {M : Nat → Nat → Nat} (h : ∀ i j, M i j < 256) (p q : Nat) : ∀ i' j, swpR M p q i' j < 256 := by
  intro i' j
  unfold swpR
  split
  · exact h _ _
  · split
    · exact h _ _
    · exact h _ _
theorem mul_f (a b : Nat) (ha : a < 256) (hb : b < 256) : reedsolomon_galMultiply.f (a : Int) (b : Int) = some ((gmul a b : Nat) : Int) := by
  unfold reedsolomon_galMultiply.f
  rw [if_pos (by omega), if_pos (by omega), if_pos (by omega), if_pos (by omega), Int.toNat_natCast, Int.toNat_natCast]
theorem xor8 (a b : Nat) (ha : a < 256) (hb : b < 256) : bits .xor .u8 (a : Int) (b : Int) = ((a ^^^ b : Nat) : Int) := by
  exact u8_xor_nat a b ha hb
theorem pv_zero (M : Nat → Nat → Nat) (r k n : Nat) (hk : k < n) (h : M k r = 0) : pvR M r k (n - k) = pvR M r (k + 1) (n - (k + 1)) := by
  rw [show n - k = (n - (k + 1)) + 1 by omega]
  show (if M k r = 0 then _ else _) = _
  rw [if_pos h]
theorem pv_some (M : Nat → Nat → Nat) (r k n : Nat) (hk : k < n) (h : M k r ≠ 0) : pvR M r k (n - k) = some k := by
  rw [show n - k = (n - (k + 1)) + 1 by omega]
  show (if M k r = 0 then _ else _) = _
  rw [if_neg h]
theorem pv_end (M : Nat → Nat → Nat) (r n : Nat) : pvR M r n (n - n) = none := by
  rw [Nat.sub_self]
  rfl
theorem ph1_none (n : Nat) (M : Nat → Nat → Nat) (r : Nat) (h : ph1 n M r = none) : ∀ d, ph1 n M (r + d) = none
  | 0 => h
  | d + 1 => by
    show (ph1 n M (r + d)).bind _ = none
    rw [ph1_none n M r h d]
    rfl
theorem swp_self (M : Nat → Nat → Nat) (p : Nat) : swpR M p p = M := by
  funext i j
  unfold swpR
  split
  · rename_i h
    rw [h]
  · rfl
def addTo (M : Nat → Nat → Nat) (i r s k : Nat) : Nat → Nat → Nat := fun i' j => if i' = i ∧ j < k then M i j ^^^ gmul s (M r j) else M i' j
theorem addTo_all (M : Nat → Nat → Nat) (i r s k i' j : Nat) (hj : j < k) : addTo M i r s k i' j = addR M i r s i' j := by
  unfold addTo addR
  by_cases e : i' = i
  · rw [if_pos ⟨e, hj⟩, if_pos e]
  · rw [if_neg (fun h => e h.1), if_neg e]
def sclTo (M : Nat → Nat → Nat) (r s k : Nat) : Nat → Nat → Nat := fun i' j => if i' = r ∧ j < k then gmul (M r j) s else M i' j
theorem sclTo_all (M : Nat → Nat → Nat) (r s k i' j : Nat) (hj : j < k) : sclTo M r s k i' j = sclR M r s i' j := by
  unfold sclTo sclR
  by_cases e : i' = r
  · rw [if_pos ⟨e, hj⟩, if_pos e]
  · rw [if_neg (fun h => e h.1), if_neg e]
def reedsolomon_matrix_gaussianElimination.T21 : Bool × List (List Nat × List Nat) := (true, [([], []), ([], []), ([0, 1], [0, 1]), ([2], [2]), ([], []), ([], []), ([], []), ([5, 6], [5, 6]), ([7], [7]), ([], []), ([8, 9], [8, 9]), ([10], [10]), ([], []), ([11, 12], [11, 12]), ([3, 4, 0, 1, 2, 3, 4, 5, 6, 7, 8, 9, 10, 11, 12, 13], [3, 4]), ([14, 13, 13, 0, 1, 2, 3, 4, 5, 6, 7, 8, 9, 10, 11, 12, 13], [13, 14])])
def reedsolomon_matrix_gaussianElimination.B21 : List Nat := [0, 0, 3, 7, 0, 0, 0, 96, 224, 0, 992, 2016, 0, 8160, 16383, 32767]
theorem reedsolomon_matrix_gaussianElimination.tab21 : rtab .any (opsOf Tryd.f61 21) = reedsolomon_matrix_gaussianElimination.T21 := by kernel_rfl
theorem reedsolomon_matrix_gaussianElimination.bits21 : waitsOk reedsolomon_matrix_gaussianElimination.T21.2 reedsolomon_matrix_gaussianElimination.B21 = true := by kernel_rfl
def reedsolomon_matrix_gaussianElimination.T31 : Bool × List (List Nat × List Nat) := (true, [([], []), ([], []), ([0, 1], [0, 1]), ([2], [2]), ([], []), ([3, 4], [3, 4]), ([5], [5]), ([], []), ([], []), ([], []), ([8, 9], [8, 9]), ([10], [10]), ([], []), ([11, 12], [11, 12]), ([13], [13]), ([7, 14], [7, 14]), ([6, 15], [6, 15]), ([3, 4, 0, 1, 2, 3, 4, 5, 6, 7, 8, 9, 10, 11, 12, 13, 14, 15, 16], [3, 4]), ([17, 16, 15, 0, 1, 2, 3, 4, 5, 6, 7, 8, 9, 10, 11, 12, 13, 14, 15, 16], [16, 17])])
def reedsolomon_matrix_gaussianElimination.B31 : List Nat := [0, 0, 3, 7, 0, 31, 63, 0, 0, 0, 768, 1792, 0, 7936, 16128, 32640, 65535, 131071, 262143]
theorem reedsolomon_matrix_gaussianElimination.tab31 : rtab .any (opsOf Tryd.f61 31) = reedsolomon_matrix_gaussianElimination.T31 := by kernel_rfl
theorem reedsolomon_matrix_gaussianElimination.bits31 : waitsOk reedsolomon_matrix_gaussianElimination.T31.2 reedsolomon_matrix_gaussianElimination.B31 = true := by kernel_rfl
def reedsolomon_matrix_gaussianElimination.T45 : Bool × List (List Nat × List Nat) := (true, [([], []), ([], []), ([0, 1], [0, 1]), ([2], [2]), ([], []), ([3, 4], [3, 4]), ([5], [5]), ([], []), ([], []), ([], []), ([8, 9], [8, 9]), ([10], [10]), ([], []), ([11, 12], [11, 12]), ([13], [13]), ([7, 14], [7, 14]), ([6, 15], [6, 15]), ([3, 4, 0, 1, 2, 3, 4, 5, 6, 7, 8, 9, 10, 11, 12, 13, 14, 15, 16], [3, 4]), ([17, 16, 15, 0, 1, 2, 3, 4, 5, 6, 7, 8, 9, 10, 11, 12, 13, 14, 15, 16], [16, 17])])
def reedsolomon_matrix_gaussianElimination.B45 : List Nat := [0, 0, 3, 7, 0, 31, 63, 0, 0, 0, 768, 1792, 0, 7936, 16128, 32640, 65535, 131071, 262143]
theorem reedsolomon_matrix_gaussianElimination.tab45 : rtab .any (opsOf Tryd.f61 45) = reedsolomon_matrix_gaussianElimination.T45 := by kernel_rfl
theorem reedsolomon_matrix_gaussianElimination.bits45 : waitsOk reedsolomon_matrix_gaussianElimination.T45.2 reedsolomon_matrix_gaussianElimination.B45 = true := by kernel_rfl
set_option maxHeartbeats 8000000 in
set_option maxRecDepth 100000 in
theorem reedsolomon_matrix_gaussianElimination.calls (g n c cpo : Nat) (b cap : Nat → Nat) (M : Nat → Nat → Nat) (hn : 0 < n) (hnc : n ≤ c) (hc : c ≤ 1000000) (w0 w : World) (hGE : GlobE w0) (hGF : GlobF w0) (hM : Mx w g n c b cap M) (hlt : ∀ i j, M i j < 256) (hg : w0.heap.size ≤ g) (hbb : ∀ i, i < n → w0.heap.size ≤ b i) (hB : Below w0.heap.size w0 w) (E : Option Int) (hE : E = if (gaussR n M).isSome then none else some 0) :
    Calls Tryd.prog 61 #[.slice (some ⟨g, 0, none⟩) n cpo] w fun e w' => ∃ q : Addr, e = .returned (errW q E) ∧ (∀ M', gaussR n M = some M' → ∃ b' cap', Mx w' g n c b' cap' M') ∧ Below w0.heap.size w0 w' := by
  have hu22 := Tryd.underlying22
  have hu66 := Tryd.underlying66
  have hu52 := Tryd.underlying52
  have HM := Aside0.mk hM
  have HB := Aside0.mk hB
  have hn0 : ((0 : Int) < (n : Int)) = True := eq_true (by omega)
  have hn0' : (0 < n) = True := eq_true hn
  have hc0 := hM.cellO 0 hn
  have HE := Aside0.mk hE
  clear hM hB hE
  go_enter Tryd.func61, Tryd.ntmps61
  go_wp2
  clear hc0
  go_loopg [24] n (fun kq v24 w' => ∃ (r : Nat) (b cap : Nat → Nat) (M1 : Nat → Nat → Nat), v24 = .int .i64 (r : Int) ∧ Aside0 (r + kq = n ∧ ph1 n M r = some M1) ∧ Aside0 (Mx w' g n c b cap M1) ∧ Aside0 ((∀ i j, M1 i j < 256) ∧ ∀ i, i < n → w0.heap.size ≤ b i) ∧ Aside0 (Below w0.heap.size w0 w'))
  case atStart => exact ⟨0, b, cap, M, rfl, ⟨by omega, rfl⟩, HM, ⟨hlt, hbb⟩, HB⟩
  case round =>
    clear HM HB
    obtain ⟨r, b, cap, M1, rfl, HR, HM, HL, HB⟩ := hrel
    by_cases c1 : r < n
    · have hmd := decide_eq_true (show (r : Int) < (n : Int) by omega)
      have hmd' : decide (r < n) = true := decide_eq_true c1
      have hl1 : ((r : Int) < (n : Int)) = True := eq_true (by omega)
      have hl2 : ((r : Int) < (c : Int)) = True := eq_true (by omega)
      have hc1 := HM.out.cellO r c1
      have hc2 := HM.out.cellI r r c1 (by omega)
      go_upto_if 34 with (fail)
      go_cut [] (fun wc => ∃ (M2 : Nat → Nat → Nat) (b cap : Nat → Nat), Aside0 ((∃ p, pvR M1 r r (n - r) = some p ∧ M2 = swpR M1 r p ∧ M2 r r ≠ 0) ∨ (pvR M1 r r (n - r) = none ∧ M2 r r = 0)) ∧ Aside0 (Mx wc g n c b cap M2) ∧ Aside0 ((∀ i j, M2 i j < 256) ∧ ∀ i, i < n → w0.heap.size ≤ b i) ∧ Aside0 (Below w0.heap.size w0 wc))
      case first =>
        by_cases h0 : M1 r r = 0
        · have ht : (((M1 r r : Nat) : Int) == 0) = true := beq_iff_eq.2 (by omega)
          rw [ht]
          have hr1 : wrap64 ((r : Int) + 1) = ((r + 1 : Nat) : Int) := by unfold wrap64; omega
          clear hc1 hc2 hmd hmd' hl1
          go_wp2
          go_loopg [6] n (fun kq v6 w' => ∃ k : Nat, v6 = .int .i64 (k : Int) ∧ Aside0 (r + 1 ≤ k ∧ k + kq = n + r + 1 ∧ k ≤ n ∧ pvR M1 r r (n - r) = pvR M1 r k (n - k)) ∧ Aside0 (Mx w' g n c b cap M1) ∧ Aside0 (Below w0.heap.size w0 w'))
          case atStart => exact ⟨r + 1, rfl, ⟨Nat.le_refl _, by omega, by omega, pv_zero M1 r r n c1 h0⟩, HM, HB⟩
          case round =>
            clear HM HB
            obtain ⟨k, rfl, HK, HM, HB⟩ := hrel
            by_cases c2 : k < n
            · have hmd := decide_eq_true (show (k : Int) < (n : Int) by omega)
              have hmd' : decide (k < n) = true := decide_eq_true c2
              have hl1 : ((k : Int) < (n : Int)) = True := eq_true (by omega)
              have hc1 := HM.out.cellO k c2
              have hc2 := HM.out.cellI k r c2 (by omega)
              by_cases hk0 : M1 k r = 0
              · have hne : (((M1 k r : Nat) : Int) != 0) = false := bne_eq_false_iff_eq.2 (by omega)
                have hne' : (M1 k r != 0) = false := bne_eq_false_iff_eq.2 hk0
                have hk1 : wrap64 ((k : Int) + 1) = ((k + 1 : Nat) : Int) := by unfold wrap64; omega
                go_wp2
                go_roundg (n + r - k)
                case measure => have := HK.out; omega
                case rel => exact ⟨k + 1, rfl, ⟨by have := HK.out; omega, by have := HK.out; omega, by omega, HK.out.2.2.2.trans (pv_zero M1 r k n c2 hk0)⟩, HM, HB⟩
              · have hne : (((M1 k r : Nat) : Int) != 0) = true := bne_iff_ne.2 (by omega)
                have hne' : (M1 k r != 0) = true := bne_iff_ne.2 hk0
                go_wp2_with (first | ((with_reducible refine gate_callee (f := 62) rfl ?_); refine goesL_ (some 53) rfl rfl Tryd.func62 (by kernel_rfl) rfl #[.slice (some ⟨g, 0, none⟩) n cpo, .int .i64 (r : Int), .int .i64 (k : Int)] rfl (by (try simp only [List.map_toArray, List.map_cons, List.map_nil]); first | done | rfl) ?_; (with_reducible refine (reedsolomon_matrix_SwapRows.calls g n c cpo b cap M1 r k c1 c2 w0 _ HM.out hg HB.out).mono ?_); rintro e6 w6 ⟨rfl, hm, hb⟩; refine ⟨_, rfl, ?_⟩; (have HM1 := Aside0.mk hm); (have HB1 := Aside0.mk hb); clear hm hb HM HB hc1 hc2))
                go_meet
                case rel => exact ⟨swpR M1 r k, _, _, ⟨Or.inl ⟨k, HK.out.2.2.2.trans (pv_some M1 r k n c2 hk0), rfl, by unfold swpR; rw [if_pos rfl]; exact hk0⟩⟩, HM1, ⟨swpR_lt HL.out.1 _ _, fun i hi => by
                  show w0.heap.size ≤ if i = r then b k else if i = k then b r else b i
                  split
                  · exact HL.out.2 k c2
                  · split
                    · exact HL.out.2 r c1
                    · exact HL.out.2 i hi⟩, HB1⟩
            · have hkn : k = n := by have := HK.out; omega
              subst hkn
              have hmd := decide_eq_false (show ¬ (k : Int) < (k : Int) by omega)
              go_wp2
              go_meet
              case rel => exact ⟨M1, b, cap, ⟨Or.inr ⟨HK.out.2.2.2.trans (pv_end M1 r k), h0⟩⟩, HM, HL, HB⟩
        · have ht : (((M1 r r : Nat) : Int) == 0) = false := beq_eq_false_iff_ne.2 (by omega)
          rw [ht]
          go_wp2
          go_meet
          case rel => exact ⟨swpR M1 r r, b, cap, ⟨Or.inl ⟨r, pv_some M1 r r n c1 h0, rfl, by rw [swp_self]; exact h0⟩⟩, ⟨by rw [swp_self]; exact HM.out⟩, ⟨by rw [swp_self]; exact HL.out.1, HL.out.2⟩, HB⟩
      case rest =>
        clear HM HL HB hc1 hc2
        obtain ⟨M2, b, cap, HP, HM, HL, HB⟩ := hcut
        have hc1 := HM.out.cellO r c1
        have hc2 := HM.out.cellI r r c1 (by omega)
        rcases HP.out with ⟨p, hp1, hp2, hp3⟩ | ⟨hp1, hp2⟩
        · have ht : (((M2 r r : Nat) : Int) == 0) = false := beq_eq_false_iff_ne.2 (by omega)
          have ht' : (M2 r r == 0) = false := beq_eq_false_iff_ne.2 hp3
          have HPS := Aside0.mk (And.intro hp1 hp2)
          have HPN := Aside0.mk hp3
          have HLBB := Aside0.mk HL.out.2
          clear hp1 hp2 hp3 HP
          go_upto_if 73 with (fail)
          go_cut [] (fun wc => Aside0 (Mx wc g n c b cap (oneR M2 r)) ∧ Aside0 (∀ i j, oneR M2 r i j < 256) ∧ Aside0 (Below w0.heap.size w0 wc))
          case first =>
            by_cases h1 : M2 r r = 1
            · have hu : (((M2 r r : Nat) : Int) != 1) = false := bne_eq_false_iff_eq.2 (by omega)
              (first | rw [hu] | skip)
              go_wp2
              go_meet
              case rel => exact ⟨⟨by unfold oneR; rw [if_pos h1]; exact HM.out⟩, ⟨by unfold oneR; rw [if_pos h1]; exact HL.out.1⟩, HB⟩
            · have hu : (((M2 r r : Nat) : Int) != 1) = true := bne_iff_ne.2 (by omega)
              (first | rw [hu] | skip)
              have hlt2 := HL.out.1 r r
              obtain ⟨s, hsf, HS⟩ : ∃ s : Nat, Aside0 (reedsolomon_galOneOver.f ((M2 r r : Nat) : Int) = some (s : Int)) ∧ Aside0 (s = ginv (M2 r r) ∧ s < 256) := by
                refine ⟨ginv (M2 r r), ⟨?_⟩, ⟨rfl, gpow_lt _ (by have := glog_lt (M2 r r); omega)⟩⟩
                unfold reedsolomon_galOneOver.f
                rw [if_pos (by have := HPN.out; omega), Int.toNat_natCast]
              clear hlt2
              go_wp2_with (first | ((with_reducible refine gate_callee (f := 63) rfl ?_); refine goesL_ (some 81) rfl rfl Tryd.func63 (by kernel_rfl) rfl #[.int .u8 ((M2 r r : Nat) : Int)] rfl (by (try simp only [List.map_toArray, List.map_cons, List.map_nil]); first | done | rfl) ?_; (with_reducible refine (reedsolomon_galOneOver.calls _ _ _ (hGF.below HB.out) hsf.out).mono ?_); rintro e6 w6 ⟨rfl, hd⟩; refine ⟨_, rfl, ?_⟩; (have HM1 := Aside0.mk (show Mx w6 g n c b cap M2 by obtain ⟨nn, rfl⟩ := hd; exact HM.out.drewN nn)); (have HB1 := Aside0.mk (show Below w0.heap.size w0 w6 by obtain ⟨nn, rfl⟩ := hd; exact pw_below_drewN HB.out nn)); clear hd HM HB hc1 hc2))
              go_loopg [83] c (fun kq v83 w' => ∃ j : Nat, v83 = .int .i64 (j : Int) ∧ Aside0 (j + kq = c) ∧ Aside0 (Mx w' g n c b cap (sclTo M2 r s j)) ∧ Aside0 (Below w0.heap.size w0 w'))
              case atStart => exact ⟨0, rfl, ⟨by omega⟩, ⟨HM1.out.congr fun i j _ _ => by unfold sclTo; rw [if_neg (by omega)]⟩, HB1⟩
              case round =>
                clear HM1 HB1 ht ht' hu
                obtain ⟨j, rfl, HJ, HM, HB⟩ := hrel
                by_cases cj : j < c
                · have hmd := decide_eq_true (show (j : Int) < (c : Int) by omega)
                  have hmd' : decide (j < c) = true := decide_eq_true cj
                  have hlj : ((j : Int) < (c : Int)) = True := eq_true (by omega)
                  have hlr : ((r : Int) < (n : Int)) = True := eq_true (by omega)
                  have hx256 := HL.out.1 r j
                  have hc2 : wr.cell? ⟨b r, j, none⟩ = some (.int .u8 ((M2 r j : Nat) : Int)) := by
                    rw [HM.out.cellI r j c1 cj]
                    unfold sclTo
                    rw [if_neg (by omega)]
                  obtain ⟨x, HX⟩ : ∃ x, Aside0 (M2 r j = x) := ⟨_, ⟨rfl⟩⟩
                  rw [HX.out] at hc2 hx256
                  obtain ⟨z, hzf, HZ⟩ : ∃ z : Nat, Aside0 (reedsolomon_galMultiply.f (x : Int) (s : Int) = some (z : Int)) ∧ Aside0 (z = gmul x s) := ⟨_, ⟨mul_f x s hx256 HS.out.2⟩, ⟨rfl⟩⟩
                  have HC2 := Aside0.mk hc2
                  clear hc2 hx256
                  go_wp2
                  refine start_ (n := 16) (S := fun w' => w'.cell? ⟨g, r, none⟩ = some (.slice (some ⟨b r, 0, none⟩) c (cap r)) ∧ w'.cell? ⟨b r, j, none⟩ = some (.int .u8 (x : Int))) (ds := [15]) #[false, false, false, false, false, false, false, false, false, false, false, false, false, false, false, false] (by kernel_rfl) rfl rfl (⟨HM.out.drew.cellO r c1, HC2.out⟩) (fun hHeld => ?_)
                  refine with_tabW reedsolomon_matrix_gaussianElimination.tab21 reedsolomon_matrix_gaussianElimination.bits21 (fun HT_ HW_ => ?_)
                  refine pure_ (i := 0) (N := (some 86)) (v := ?_) (a' := ?_) #[true, false, false, false, false, false, false, false, false, false, false, false, false, false, false, false] rfl rfl (any_of HT_.out (by kernel_rfl)) (fun _ _ _ h => h) (Or.inl ⟨by rfl, ?_⟩) ?_ ?_
                  rotate_left
                  · intro w'
                    go_simp
                    with_reducible rfl
                  rotate_left
                  · simp only [Act.put, List.setIfInBounds_toArray, List.set_cons_zero, List.set_cons_succ, i64_w, i32_w]
                    rfl
                  refine pure_ (i := 1) (N := (some 87)) (v := ?_) (a' := ?_) #[true, true, false, false, false, false, false, false, false, false, false, false, false, false, false, false] rfl rfl (any_of HT_.out (by kernel_rfl)) (fun _ _ _ h => h) (Or.inl ⟨by rfl, ?_⟩) ?_ ?_
                  rotate_left
                  · intro w'
                    go_simp
                    with_reducible rfl
                  rotate_left
                  · simp only [Act.put, List.setIfInBounds_toArray, List.set_cons_zero, List.set_cons_succ, i64_w, i32_w]
                    rfl
                  refine pure_ (i := 2) (N := (some 88)) (v := ?_) (a' := ?_) #[true, true, true, false, false, false, false, false, false, false, false, false, false, false, false, false] rfl rfl (any_of HT_.out (by kernel_rfl)) (fun _ _ _ h => h) (Or.inl ⟨by rfl, ?_⟩) ?_ ?_
                  rotate_left
                  · intro w'
                    go_simp
                    with_reducible rfl
                  rotate_left
                  · simp only [Act.put, List.setIfInBounds_toArray, List.set_cons_zero, List.set_cons_succ, i64_w, i32_w]
                    rfl
                  refine take_ (i := 3) (N := (some 89)) (v := ?_) (a' := ?_) #[true, true, true, true, false, false, false, false, false, false, false, false, false, false, false, false] rfl rfl (take_ofW HT_.out HW_.out (by kernel_rfl)) (fun _ _ _ h => h) (Or.inl ⟨by rfl, ?_⟩) hHeld ?_ ?_
                  rotate_left
                  · rintro w' ⟨s0, s1⟩
                    go_simp
                    with_reducible rfl
                  rotate_left
                  · simp only [Act.put, List.setIfInBounds_toArray, List.set_cons_zero, List.set_cons_succ, i64_w, i32_w]
                    rfl
                  refine pure_ (i := 4) (N := (some 90)) (v := ?_) (a' := ?_) #[true, true, true, true, true, false, false, false, false, false, false, false, false, false, false, false] rfl rfl (any_of HT_.out (by kernel_rfl)) (fun _ _ _ h => h) (Or.inl ⟨by rfl, ?_⟩) ?_ ?_
                  rotate_left
                  · intro w'
                    go_simp
                    with_reducible rfl
                  rotate_left
                  · simp only [Act.put, List.setIfInBounds_toArray, List.set_cons_zero, List.set_cons_succ, i64_w, i32_w]
                    rfl
                  refine pure_ (i := 5) (N := (some 91)) (v := ?_) (a' := ?_) #[true, true, true, true, true, true, false, false, false, false, false, false, false, false, false, false] rfl rfl (any_of HT_.out (by kernel_rfl)) (fun _ _ _ h => h) (Or.inl ⟨by rfl, ?_⟩) ?_ ?_
                  rotate_left
                  · intro w'
                    go_simp
                    with_reducible rfl
                  rotate_left
                  · simp only [Act.put, List.setIfInBounds_toArray, List.set_cons_zero, List.set_cons_succ, i64_w, i32_w]
                    rfl
                  refine pure_ (i := 6) (N := (some 92)) (v := ?_) (a' := ?_) #[true, true, true, true, true, true, true, false, false, false, false, false, false, false, false, false] rfl rfl (any_of HT_.out (by kernel_rfl)) (fun _ _ _ h => h) (Or.inl ⟨by rfl, ?_⟩) ?_ ?_
                  rotate_left
                  · intro w'
                    go_simp
                    with_reducible rfl
                  rotate_left
                  · simp only [Act.put, List.setIfInBounds_toArray, List.set_cons_zero, List.set_cons_succ, i64_w, i32_w]
                    rfl
                  refine pure_ (i := 7) (N := (some 93)) (v := ?_) (a' := ?_) #[true, true, true, true, true, true, true, true, false, false, false, false, false, false, false, false] rfl rfl (any_of HT_.out (by kernel_rfl)) (fun _ _ _ h => h) (Or.inl ⟨by rfl, ?_⟩) ?_ ?_
                  rotate_left
                  · intro w'
                    go_simp
                    with_reducible rfl
                  rotate_left
                  · simp only [Act.put, List.setIfInBounds_toArray, List.set_cons_zero, List.set_cons_succ, i64_w, i32_w]
                    rfl
                  refine take_ (i := 8) (N := (some 94)) (v := ?_) (a' := ?_) #[true, true, true, true, true, true, true, true, true, false, false, false, false, false, false, false] rfl rfl (take_ofW HT_.out HW_.out (by kernel_rfl)) (fun _ _ _ h => h) (Or.inl ⟨by rfl, ?_⟩) hHeld ?_ ?_
                  rotate_left
                  · rintro w' ⟨s0, s1⟩
                    go_simp
                    with_reducible rfl
                  rotate_left
                  · simp only [Act.put, List.setIfInBounds_toArray, List.set_cons_zero, List.set_cons_succ, i64_w, i32_w]
                    rfl
                  refine pure_ (i := 9) (N := (some 95)) (v := ?_) (a' := ?_) #[true, true, true, true, true, true, true, true, true, true, false, false, false, false, false, false] rfl rfl (any_of HT_.out (by kernel_rfl)) (fun _ _ _ h => h) (Or.inl ⟨by rfl, ?_⟩) ?_ ?_
                  rotate_left
                  · intro w'
                    go_simp
                    with_reducible rfl
                  rotate_left
                  · simp only [Act.put, List.setIfInBounds_toArray, List.set_cons_zero, List.set_cons_succ, i64_w, i32_w]
                    rfl
                  refine pure_ (i := 10) (N := (some 96)) (v := ?_) (a' := ?_) #[true, true, true, true, true, true, true, true, true, true, true, false, false, false, false, false] rfl rfl (any_of HT_.out (by kernel_rfl)) (fun _ _ _ h => h) (Or.inl ⟨by rfl, ?_⟩) ?_ ?_
                  rotate_left
                  · intro w'
                    go_simp
                    with_reducible rfl
                  rotate_left
                  · simp only [Act.put, List.setIfInBounds_toArray, List.set_cons_zero, List.set_cons_succ, i64_w, i32_w]
                    rfl
                  refine take_ (i := 11) (N := (some 97)) (v := ?_) (a' := ?_) #[true, true, true, true, true, true, true, true, true, true, true, true, false, false, false, false] rfl rfl (take_ofW HT_.out HW_.out (by kernel_rfl)) (fun _ _ _ h => h) (Or.inl ⟨by rfl, ?_⟩) hHeld ?_ ?_
                  rotate_left
                  · rintro w' ⟨s0, s1⟩
                    go_simp
                    with_reducible rfl
                  rotate_left
                  · simp only [Act.put, List.setIfInBounds_toArray, List.set_cons_zero, List.set_cons_succ, i64_w, i32_w]
                    rfl
                  refine pure_ (i := 12) (N := (some 98)) (v := ?_) (a' := ?_) #[true, true, true, true, true, true, true, true, true, true, true, true, true, false, false, false] rfl rfl (any_of HT_.out (by kernel_rfl)) (fun _ _ _ h => h) (Or.inl ⟨by rfl, ?_⟩) ?_ ?_
                  rotate_left
                  · intro w'
                    go_simp
                    with_reducible rfl
                  rotate_left
                  · simp only [Act.put, List.setIfInBounds_toArray, List.set_cons_zero, List.set_cons_succ, i64_w, i32_w]
                    rfl
                  refine one_ (i := 13) (N := (some 99)) #[true, true, true, true, true, true, true, true, true, true, true, true, true, true, false, false] rfl rfl (one_of HT_.out (by kernel_rfl)) (by decide) (fun K hK => ?_)
                  refine goes_ Tryd.func43 (by kernel_rfl) rfl #[.int .u8 (x : Int), .int .u8 (s : Int)] (by rfl) rfl rfl (by (try simp only [List.map_toArray, List.map_cons, List.map_nil]); first | done | rfl) ?_
                  with_reducible refine (reedsolomon_galMultiply.calls _ _ _ _ (hGF.below (below_drew1 HB.out)) hzf.out).mono ?_
                  rintro e6 w6 ⟨rfl, hd⟩
                  refine ⟨_, rfl, ?_⟩
                  have HM1 := Aside0.mk (show Mx w6 g n c b cap (sclTo M2 r s j) by obtain ⟨nn, rfl⟩ := hd; exact HM.out.drew.drewN nn)
                  have HB1 := Aside0.mk (show Below w0.heap.size w0 w6 by obtain ⟨nn, rfl⟩ := hd; exact pw_below_drewN (below_drew1 HB.out) nn)
                  have hcx : w6.cell? ⟨b r, j, none⟩ = some (.int .u8 (x : Int)) := by obtain ⟨nn, rfl⟩ := hd; exact HC2.out
                  clear hd HM HB HC2
                  refine hK.out _ _ ⟨HM1.out.cellO r c1, hcx⟩ (fun hHeld => ?_)
                  clear hK K
                  refine norm_ (a' := ?_) ?_ ?_
                  rotate_left
                  · show Act.put _ (some 99) _ = _
                    simp only [Act.put, List.setIfInBounds_toArray, List.set_cons_zero, List.set_cons_succ, i64_w, i32_w]
                    rfl
                  refine pure_ (i := 14) (N := (some 100)) (v := ?_) (a' := ?_) #[true, true, true, true, true, true, true, true, true, true, true, true, true, true, true, false] rfl rfl (any_of HT_.out (by kernel_rfl)) (fun _ _ _ h => h) (Or.inl ⟨by rfl, ?_⟩) ?_ ?_
                  rotate_left
                  · intro w'
                    go_simp
                    with_reducible rfl
                  rotate_left
                  · simp only [Act.put, List.setIfInBounds_toArray, List.set_cons_zero, List.set_cons_succ, i64_w, i32_w]
                    rfl
                  have hcy := hcx
                  have hfy := HM1.out.frozenI r j c1
                  refine last_ (i := 15) (N := none) #[true, true, true, true, true, true, true, true, true, true, true, true, true, true, true, true] rfl rfl (one_of HT_.out (by kernel_rfl)) (by decide) (fun K hK => ?_)
                  refine skip_ (w1 := ?_) (by rfl) rfl ?_ ?_
                  rotate_left
                  · go_simp
                    rfl
                  refine hK.out _ _ ?_
                  clear hK K
                  refine done_ (done_of HT_.out (by kernel_rfl)) ?_
                  go_wp2
                  have HM2 := Aside0.mk (HM1.out.set r j z c1)
                  have HB2 := Aside0.mk (below_set (j := j) (v := .int .u8 (z : Int)) HB1.out (HL.out.2 r c1))
                  go_roundg (c - j - 1)
                  case measure => have := HJ.out; omega
                  case rel =>
                    refine ⟨j + 1, by first | rfl | simp, ⟨by omega⟩, ⟨HM2.out.congr fun i' j' _ _ => ?_⟩, HB2⟩
                    unfold sclTo
                    by_cases e : i' = r ∧ j' = j
                    · rw [if_pos e, if_pos ⟨e.1, by omega⟩, e.2, HZ.out, HX.out]
                    · rw [if_neg e]
                      by_cases e2 : i' = r ∧ j' < j
                      · rw [if_pos e2, if_pos ⟨e2.1, by omega⟩]
                      · rw [if_neg e2, if_neg (by omega)]
                · have hmd := decide_eq_false (show ¬ (j : Int) < (c : Int) by omega)
                  have hjc : j = c := by have := HJ.out; omega
                  subst hjc
                  go_wp2
                  go_meet
                  case rel =>
                    have e : oneR M2 r = sclR M2 r s := by
                      unfold oneR
                      rw [if_neg h1, HS.out.1]
                    exact ⟨⟨by rw [e]; exact HM.out.congr fun i' j' _ hj' => sclTo_all M2 r s j i' j' hj'⟩, ⟨by rw [e]; exact sclR_lt HL.out.1 _ _⟩, HB⟩
          case rest =>
            clear HM HL HB hc1 hc2
            obtain ⟨HM, HL3, HB⟩ := hcut
            have HLB := Aside0.mk (show ∀ i, i < n → w0.heap.size ≤ b i from HLBB.out)
            have hr1 : wrap64 ((r : Int) + 1) = ((r + 1 : Nat) : Int) := by unfold wrap64; omega
            obtain ⟨M3, HM3⟩ : ∃ M3, Aside0 (oneR M2 r = M3) := ⟨_, ⟨rfl⟩⟩
            rw [HM3.out] at HM HL3
            clear ht ht'
            go_wp2
            go_loopg [10] n (fun kq v10 w' => ∃ k i : Nat, v10 = .int .i64 (i : Int) ∧ Aside0 (i = r + 1 + k ∧ k + kq = n ∧ i ≤ n) ∧ Aside0 (Mx w' g n c b cap (dnR M3 r k)) ∧ Aside0 (∀ i j, dnR M3 r k i j < 256) ∧ Aside0 (Below w0.heap.size w0 w'))
            case atStart => exact ⟨0, r + 1, rfl, ⟨rfl, by omega, by omega⟩, HM, HL3, HB⟩
            case round =>
              clear HM HL3 HB hr1
              obtain ⟨k, i, rfl, HI, HM, HL3, HB⟩ := hrel
              obtain ⟨M4, HM4⟩ : ∃ M4, Aside0 (dnR M3 r k = M4) := ⟨_, ⟨rfl⟩⟩
              rw [HM4.out] at HM HL3
              by_cases ci : i < n
              · have hii : i ≠ r := by have := HI.out; omega
                have hmd := decide_eq_true (show (i : Int) < (n : Int) by omega)
                have hmd' : decide (i < n) = true := decide_eq_true ci
                have hli : ((i : Int) < (n : Int)) = True := eq_true (by omega)
                have hlr : ((r : Int) < (c : Int)) = True := eq_true (by omega)
                have hi1 : wrap64 ((i : Int) + 1) = ((i + 1 : Nat) : Int) := by unfold wrap64; omega
                have hc1 := HM.out.cellO i ci
                have hc2 := HM.out.cellI i r ci (by omega)
                by_cases hz : M4 i r = 0
                · have hu : (((M4 i r : Nat) : Int) != 0) = false := bne_eq_false_iff_eq.2 (by omega)
                  have hu' : (M4 i r != 0) = false := bne_eq_false_iff_eq.2 hz
                  go_wp2
                  go_roundg (n - k - 1)
                  case measure => have := HI.out; omega
                  case rel =>
                    have e : dnR M3 r (k + 1) = M4 := by
                      show (if dnR M3 r k (r + 1 + k) r = 0 then _ else _) = _
                      rw [HM4.out, ← HI.out.1, if_pos hz]
                    exact ⟨k + 1, i + 1, rfl, ⟨by have := HI.out; omega, by have := HI.out; omega, by omega⟩, ⟨by rw [e]; exact HM.out⟩, ⟨by rw [e]; exact HL3.out⟩, HB⟩
                · have hu : (((M4 i r : Nat) : Int) != 0) = true := bne_iff_ne.2 (by omega)
                  have hu' : (M4 i r != 0) = true := bne_iff_ne.2 hz
                  obtain ⟨s, HS⟩ : ∃ s, Aside0 (M4 i r = s) := ⟨_, ⟨rfl⟩⟩
                  have hs256 := HL3.out i r
                  rw [HS.out] at hc2 hu hu' hs256
                  have HS256 := Aside0.mk hs256
                  clear hs256
                  go_wp2
                  clear hc1 hc2 hmd hmd'
                  go_loopg [125] c (fun kq v w' => ∃ j : Nat, v = .int .i64 (j : Int) ∧ Aside0 (j + kq = c) ∧ Aside0 (Mx w' g n c b cap (addTo M4 i r s j)) ∧ Aside0 (Below w0.heap.size w0 w'))
                  case atStart => exact ⟨0, rfl, ⟨by omega⟩, ⟨HM.out.congr fun i' j' _ _ => by unfold addTo; rw [if_neg (by omega)]⟩, HB⟩
                  case round =>
                    clear HM HB hu hu'
                    obtain ⟨j, rfl, HJ, HM, HB⟩ := hrel
                    by_cases cj : j < c
                    · have hmd := decide_eq_true (show (j : Int) < (c : Int) by omega)
                      have hmd' : decide (j < c) = true := decide_eq_true cj
                      have hlj : ((j : Int) < (c : Int)) = True := eq_true (by omega)
                      have hlp : ((r : Int) < (n : Int)) = True := eq_true (by omega)
                      have hx256 := HL3.out i j
                      have hy256 := HL3.out r j
                      have hcI := HM.out.cellI i j ci cj
                      have hcP := HM.out.cellI r j c1 cj
                      rw [show addTo M4 i r s j i j = M4 i j by unfold addTo; rw [if_neg (by omega)]] at hcI
                      rw [show addTo M4 i r s j r j = M4 r j by unfold addTo; rw [if_neg (by omega)]] at hcP
                      obtain ⟨x, HX⟩ : ∃ x, Aside0 (M4 i j = x) := ⟨_, ⟨rfl⟩⟩
                      obtain ⟨y, HY⟩ : ∃ y, Aside0 (M4 r j = y) := ⟨_, ⟨rfl⟩⟩
                      rw [HX.out] at hcI hx256
                      rw [HY.out] at hcP hy256
                      obtain ⟨z, hzf, HZ⟩ : ∃ z : Nat, Aside0 (reedsolomon_galMultiply.f (s : Int) (y : Int) = some (z : Int)) ∧ Aside0 (z = gmul s y) := ⟨_, ⟨mul_f s y HS256.out hy256⟩, ⟨rfl⟩⟩
                      obtain ⟨t, htx, HT⟩ : ∃ t : Nat, bits .xor .u8 (x : Int) (z : Int) = (t : Int) ∧ Aside0 (t = x ^^^ z) := ⟨_, xor8 x z hx256 (by rw [HZ.out]; exact gmul_lt _ _), ⟨rfl⟩⟩
                      have HCI := Aside0.mk hcI
                      have HCP := Aside0.mk hcP
                      clear hcI hcP hx256 hy256
                      go_wp2
                      refine start_ (n := 19) (S := fun w' => w'.cell? ⟨g, i, none⟩ = some (.slice (some ⟨b i, 0, none⟩) c (cap i)) ∧ w'.cell? ⟨b i, j, none⟩ = some (.int .u8 (x : Int)) ∧ w'.cell? ⟨g, r, none⟩ = some (.slice (some ⟨b r, 0, none⟩) c (cap r)) ∧ w'.cell? ⟨b r, j, none⟩ = some (.int .u8 (y : Int))) (ds := [18]) #[false, false, false, false, false, false, false, false, false, false, false, false, false, false, false, false, false, false, false] (by kernel_rfl) rfl rfl (⟨HM.out.drew.cellO i ci, HCI.out, HM.out.drew.cellO r c1, HCP.out⟩) (fun hHeld => ?_)
                      refine with_tabW reedsolomon_matrix_gaussianElimination.tab31 reedsolomon_matrix_gaussianElimination.bits31 (fun HT_ HW_ => ?_)
                      refine pure_ (i := 0) (N := (some 128)) (v := ?_) (a' := ?_) #[true, false, false, false, false, false, false, false, false, false, false, false, false, false, false, false, false, false, false] rfl rfl (any_of HT_.out (by kernel_rfl)) (fun _ _ _ h => h) (Or.inl ⟨by rfl, ?_⟩) ?_ ?_
                      rotate_left
                      · intro w'
                        go_simp
                        with_reducible rfl
                      rotate_left
                      · simp only [Act.put, List.setIfInBounds_toArray, List.set_cons_zero, List.set_cons_succ, i64_w, i32_w]
                        rfl
                      refine pure_ (i := 1) (N := (some 129)) (v := ?_) (a' := ?_) #[true, true, false, false, false, false, false, false, false, false, false, false, false, false, false, false, false, false, false] rfl rfl (any_of HT_.out (by kernel_rfl)) (fun _ _ _ h => h) (Or.inl ⟨by rfl, ?_⟩) ?_ ?_
                      rotate_left
                      · intro w'
                        go_simp
                        with_reducible rfl
                      rotate_left
                      · simp only [Act.put, List.setIfInBounds_toArray, List.set_cons_zero, List.set_cons_succ, i64_w, i32_w]
                        rfl
                      refine pure_ (i := 2) (N := (some 130)) (v := ?_) (a' := ?_) #[true, true, true, false, false, false, false, false, false, false, false, false, false, false, false, false, false, false, false] rfl rfl (any_of HT_.out (by kernel_rfl)) (fun _ _ _ h => h) (Or.inl ⟨by rfl, ?_⟩) ?_ ?_
                      rotate_left
                      · intro w'
                        go_simp
                        with_reducible rfl
                      rotate_left
                      · simp only [Act.put, List.setIfInBounds_toArray, List.set_cons_zero, List.set_cons_succ, i64_w, i32_w]
                        rfl
                      refine take_ (i := 3) (N := (some 131)) (v := ?_) (a' := ?_) #[true, true, true, true, false, false, false, false, false, false, false, false, false, false, false, false, false, false, false] rfl rfl (take_ofW HT_.out HW_.out (by kernel_rfl)) (fun _ _ _ h => h) (Or.inl ⟨by rfl, ?_⟩) hHeld ?_ ?_
                      rotate_left
                      · rintro w' ⟨s0, s1, s2, s3⟩
                        go_simp
                        with_reducible rfl
                      rotate_left
                      · simp only [Act.put, List.setIfInBounds_toArray, List.set_cons_zero, List.set_cons_succ, i64_w, i32_w]
                        rfl
                      refine pure_ (i := 4) (N := (some 132)) (v := ?_) (a' := ?_) #[true, true, true, true, true, false, false, false, false, false, false, false, false, false, false, false, false, false, false] rfl rfl (any_of HT_.out (by kernel_rfl)) (fun _ _ _ h => h) (Or.inl ⟨by rfl, ?_⟩) ?_ ?_
                      rotate_left
                      · intro w'
                        go_simp
                        with_reducible rfl
                      rotate_left
                      · simp only [Act.put, List.setIfInBounds_toArray, List.set_cons_zero, List.set_cons_succ, i64_w, i32_w]
                        rfl
                      refine pure_ (i := 5) (N := (some 133)) (v := ?_) (a' := ?_) #[true, true, true, true, true, true, false, false, false, false, false, false, false, false, false, false, false, false, false] rfl rfl (any_of HT_.out (by kernel_rfl)) (fun _ _ _ h => h) (Or.inl ⟨by rfl, ?_⟩) ?_ ?_
                      rotate_left
                      · intro w'
                        go_simp
                        with_reducible rfl
                      rotate_left
                      · simp only [Act.put, List.setIfInBounds_toArray, List.set_cons_zero, List.set_cons_succ, i64_w, i32_w]
                        rfl
                      refine take_ (i := 6) (N := (some 134)) (v := ?_) (a' := ?_) #[true, true, true, true, true, true, true, false, false, false, false, false, false, false, false, false, false, false, false] rfl rfl (take_ofW HT_.out HW_.out (by kernel_rfl)) (fun _ _ _ h => h) (Or.inl ⟨by rfl, ?_⟩) hHeld ?_ ?_
                      rotate_left
                      · rintro w' ⟨s0, s1, s2, s3⟩
                        go_simp
                        with_reducible rfl
                      rotate_left
                      · simp only [Act.put, List.setIfInBounds_toArray, List.set_cons_zero, List.set_cons_succ, i64_w, i32_w]
                        rfl
                      refine pure_ (i := 7) (N := (some 135)) (v := ?_) (a' := ?_) #[true, true, true, true, true, true, true, true, false, false, false, false, false, false, false, false, false, false, false] rfl rfl (any_of HT_.out (by kernel_rfl)) (fun _ _ _ h => h) (Or.inl ⟨by rfl, ?_⟩) ?_ ?_
                      rotate_left
                      · intro w'
                        go_simp
                        with_reducible rfl
                      rotate_left
                      · simp only [Act.put, List.setIfInBounds_toArray, List.set_cons_zero, List.set_cons_succ, i64_w, i32_w]
                        rfl
                      refine pure_ (i := 8) (N := (some 136)) (v := ?_) (a' := ?_) #[true, true, true, true, true, true, true, true, true, false, false, false, false, false, false, false, false, false, false] rfl rfl (any_of HT_.out (by kernel_rfl)) (fun _ _ _ h => h) (Or.inl ⟨by rfl, ?_⟩) ?_ ?_
                      rotate_left
                      · intro w'
                        go_simp
                        with_reducible rfl
                      rotate_left
                      · simp only [Act.put, List.setIfInBounds_toArray, List.set_cons_zero, List.set_cons_succ, i64_w, i32_w]
                        rfl
                      refine pure_ (i := 9) (N := (some 137)) (v := ?_) (a' := ?_) #[true, true, true, true, true, true, true, true, true, true, false, false, false, false, false, false, false, false, false] rfl rfl (any_of HT_.out (by kernel_rfl)) (fun _ _ _ h => h) (Or.inl ⟨by rfl, ?_⟩) ?_ ?_
                      rotate_left
                      · intro w'
                        go_simp
                        with_reducible rfl
                      rotate_left
                      · simp only [Act.put, List.setIfInBounds_toArray, List.set_cons_zero, List.set_cons_succ, i64_w, i32_w]
                        rfl
                      refine pure_ (i := 10) (N := (some 138)) (v := ?_) (a' := ?_) #[true, true, true, true, true, true, true, true, true, true, true, false, false, false, false, false, false, false, false] rfl rfl (any_of HT_.out (by kernel_rfl)) (fun _ _ _ h => h) (Or.inl ⟨by rfl, ?_⟩) ?_ ?_
                      rotate_left
                      · intro w'
                        go_simp
                        with_reducible rfl
                      rotate_left
                      · simp only [Act.put, List.setIfInBounds_toArray, List.set_cons_zero, List.set_cons_succ, i64_w, i32_w]
                        rfl
                      refine take_ (i := 11) (N := (some 139)) (v := ?_) (a' := ?_) #[true, true, true, true, true, true, true, true, true, true, true, true, false, false, false, false, false, false, false] rfl rfl (take_ofW HT_.out HW_.out (by kernel_rfl)) (fun _ _ _ h => h) (Or.inl ⟨by rfl, ?_⟩) hHeld ?_ ?_
                      rotate_left
                      · rintro w' ⟨s0, s1, s2, s3⟩
                        go_simp
                        with_reducible rfl
                      rotate_left
                      · simp only [Act.put, List.setIfInBounds_toArray, List.set_cons_zero, List.set_cons_succ, i64_w, i32_w]
                        rfl
                      refine pure_ (i := 12) (N := (some 140)) (v := ?_) (a' := ?_) #[true, true, true, true, true, true, true, true, true, true, true, true, true, false, false, false, false, false, false] rfl rfl (any_of HT_.out (by kernel_rfl)) (fun _ _ _ h => h) (Or.inl ⟨by rfl, ?_⟩) ?_ ?_
                      rotate_left
                      · intro w'
                        go_simp
                        with_reducible rfl
                      rotate_left
                      · simp only [Act.put, List.setIfInBounds_toArray, List.set_cons_zero, List.set_cons_succ, i64_w, i32_w]
                        rfl
                      refine pure_ (i := 13) (N := (some 141)) (v := ?_) (a' := ?_) #[true, true, true, true, true, true, true, true, true, true, true, true, true, true, false, false, false, false, false] rfl rfl (any_of HT_.out (by kernel_rfl)) (fun _ _ _ h => h) (Or.inl ⟨by rfl, ?_⟩) ?_ ?_
                      rotate_left
                      · intro w'
                        go_simp
                        with_reducible rfl
                      rotate_left
                      · simp only [Act.put, List.setIfInBounds_toArray, List.set_cons_zero, List.set_cons_succ, i64_w, i32_w]
                        rfl
                      refine take_ (i := 14) (N := (some 142)) (v := ?_) (a' := ?_) #[true, true, true, true, true, true, true, true, true, true, true, true, true, true, true, false, false, false, false] rfl rfl (take_ofW HT_.out HW_.out (by kernel_rfl)) (fun _ _ _ h => h) (Or.inl ⟨by rfl, ?_⟩) hHeld ?_ ?_
                      rotate_left
                      · rintro w' ⟨s0, s1, s2, s3⟩
                        go_simp
                        with_reducible rfl
                      rotate_left
                      · simp only [Act.put, List.setIfInBounds_toArray, List.set_cons_zero, List.set_cons_succ, i64_w, i32_w]
                        rfl
                      refine one_ (i := 15) (N := (some 143)) #[true, true, true, true, true, true, true, true, true, true, true, true, true, true, true, true, false, false, false] rfl rfl (one_of HT_.out (by kernel_rfl)) (by decide) (fun K hK => ?_)
                      refine goes_ Tryd.func43 (by kernel_rfl) rfl #[.int .u8 (s : Int), .int .u8 (y : Int)] (by rfl) rfl rfl (by (try simp only [List.map_toArray, List.map_cons, List.map_nil]); first | done | rfl) ?_
                      with_reducible refine (reedsolomon_galMultiply.calls _ _ _ _ (hGF.below (below_drew1 HB.out)) hzf.out).mono ?_
                      rintro e6 w6 ⟨rfl, hd⟩
                      refine ⟨_, rfl, ?_⟩
                      have HM1 := Aside0.mk (show Mx w6 g n c b cap (addTo M4 i r s j) by obtain ⟨nn, rfl⟩ := hd; exact HM.out.drew.drewN nn)
                      have HB1 := Aside0.mk (show Below w0.heap.size w0 w6 by obtain ⟨nn, rfl⟩ := hd; exact pw_below_drewN (below_drew1 HB.out) nn)
                      have hcx : w6.cell? ⟨b i, j, none⟩ = some (.int .u8 (x : Int)) := by obtain ⟨nn, rfl⟩ := hd; exact HCI.out
                      have hcy : w6.cell? ⟨b r, j, none⟩ = some (.int .u8 (y : Int)) := by obtain ⟨nn, rfl⟩ := hd; exact HCP.out
                      have HCX := Aside0.mk hcx
                      clear hd HM HB HCI HCP
                      refine hK.out _ _ ⟨HM1.out.cellO i ci, hcx, HM1.out.cellO r c1, hcy⟩ (fun hHeld => ?_)
                      clear hcx hcy
                      clear hK K
                      refine norm_ (a' := ?_) ?_ ?_
                      rotate_left
                      · show Act.put _ (some 143) _ = _
                        simp only [Act.put, List.setIfInBounds_toArray, List.set_cons_zero, List.set_cons_succ, i64_w, i32_w]
                        rfl
                      refine pure_ (i := 16) (N := (some 144)) (v := ?_) (a' := ?_) #[true, true, true, true, true, true, true, true, true, true, true, true, true, true, true, true, true, false, false] rfl rfl (any_of HT_.out (by kernel_rfl)) (fun _ _ _ h => h) (Or.inl ⟨by rfl, ?_⟩) ?_ ?_
                      rotate_left
                      · intro w'
                        go_simp
                        with_reducible rfl
                      rotate_left
                      · simp only [Act.put, List.setIfInBounds_toArray, List.set_cons_zero, List.set_cons_succ, i64_w, i32_w]
                        rfl
                      refine pure_ (i := 17) (N := (some 145)) (v := ?_) (a' := ?_) #[true, true, true, true, true, true, true, true, true, true, true, true, true, true, true, true, true, true, false] rfl rfl (any_of HT_.out (by kernel_rfl)) (fun _ _ _ h => h) (Or.inl ⟨by rfl, ?_⟩) ?_ ?_
                      rotate_left
                      · intro w'
                        go_simp
                        with_reducible rfl
                      rotate_left
                      · simp only [Act.put, List.setIfInBounds_toArray, List.set_cons_zero, List.set_cons_succ, i64_w, i32_w]
                        rfl
                      have hcx := HCX.out
                      have hfx := HM1.out.frozenI i j ci
                      refine last_ (i := 18) (N := none) #[true, true, true, true, true, true, true, true, true, true, true, true, true, true, true, true, true, true, true] rfl rfl (one_of HT_.out (by kernel_rfl)) (by decide) (fun K hK => ?_)
                      refine skip_ (w1 := ?_) (by rfl) rfl ?_ ?_
                      rotate_left
                      · go_simp
                        rfl
                      refine hK.out _ _ ?_
                      clear hK K
                      refine done_ (done_of HT_.out (by kernel_rfl)) ?_
                      go_wp2
                      have HM2 := Aside0.mk (HM1.out.set i j t ci)
                      have HB2 := Aside0.mk (below_set (j := j) (v := .int .u8 (t : Int)) HB1.out (HLB.out i ci))
                      go_roundg (c - j - 1)
                      case measure => have := HJ.out; omega
                      case rel =>
                        refine ⟨j + 1, by first | rfl | simp, ⟨by omega⟩, ⟨HM2.out.congr fun i' j' _ _ => ?_⟩, HB2⟩
                        unfold addTo
                        by_cases e : i' = i ∧ j' = j
                        · rw [if_pos e, if_pos ⟨e.1, by omega⟩, e.2, HX.out, HY.out, HT.out, HZ.out]
                        · rw [if_neg e]
                          by_cases e2 : i' = i ∧ j' < j
                          · rw [if_pos e2, if_pos ⟨e2.1, by omega⟩]
                          · rw [if_neg e2, if_neg (by omega)]
                    · have hmd := decide_eq_false (show ¬ (j : Int) < (c : Int) by omega)
                      have hjc : j = c := by have := HJ.out; omega
                      subst hjc
                      go_wp2
                      have e : dnR M3 r (k + 1) = addR M4 i r s := by
                        show (if dnR M3 r k (r + 1 + k) r = 0 then _ else _) = _
                        rw [HM4.out, ← HI.out.1, if_neg hz, HS.out]
                      go_roundg (n - k - 1)
                      case measure => have := HI.out; omega
                      case rel => exact ⟨k + 1, i + 1, rfl, ⟨by have := HI.out; omega, by have := HI.out; omega, by omega⟩, ⟨by rw [e]; exact HM.out.congr fun i' j' _ hj' => addTo_all M4 i r s j i' j' hj'⟩, ⟨by rw [e]; exact addR_lt HL3.out _ _ _⟩, HB⟩
              · have hin : i = n := by have := HI.out; omega
                subst hin
                have hmd := decide_eq_false (show ¬ (i : Int) < (i : Int) by omega)
                have hr1 : wrap64 ((r : Int) + 1) = ((r + 1 : Nat) : Int) := by unfold wrap64; omega
                go_wp2
                go_roundg (i - r - 1)
                case measure => have := HR.out; omega
                case rel =>
                  refine ⟨r + 1, b, cap, M4, rfl, ⟨by have := HR.out; omega, ?_⟩, HM, ⟨HL3.out, HLB.out⟩, HB⟩
                  show (ph1 i M r).bind _ = some M4
                  rw [HR.out.2]
                  show (pvR M1 r r (i - r)).bind _ = some M4
                  rw [HPS.out.1, ← HM4.out, ← HM3.out, HPS.out.2]
                  show some (dnR (oneR (swpR M1 r p) r) r (i - (r + 1))) = some (dnR (oneR (swpR M1 r p) r) r k)
                  rw [show i - (r + 1) = k by have := HI.out; omega]
        · have ht : (((M2 r r : Nat) : Int) == 0) = true := beq_iff_eq.2 (by omega)
          have ht' : (M2 r r == 0) = true := beq_iff_eq.2 hp2
          have hp1_ := hp1
          have hG : gaussR n M = none := by
            unfold gaussR
            have h1 : ph1 n M (r + 1) = none := by
              show (ph1 n M r).bind _ = none
              rw [HR.out.2]
              show (pvR M1 r r (n - r)).bind _ = none
              rw [hp1_]
              rfl
            rw [show n = r + 1 + (n - (r + 1)) by omega, ph1_none _ M (r + 1) (by rw [show r + 1 + (n - (r + 1)) = n by omega]; exact h1)]
            rfl
          have HG := Aside0.mk hG
          have he0 : E = some 0 := by
            rw [HE.out, hG]
            rfl
          have HE0 := Aside0.mk he0
          clear hG he0 hp1_
          obtain ⟨qe, hqe⟩ := (hGE.below HB.out).out 8 (by decide)
          have HPN := Aside0.mk hp1
          clear hp1 hp2
          go_wp2
          go_ret
          exact ⟨qe, by rw [HE0.out]; rfl, fun M' hM' => (by rw [HG.out] at hM'; cases hM'), HB.out⟩
    · have hrn : r = n := by have := HR.out; omega
      subst hrn
      have hmd := decide_eq_false (show ¬ (r : Int) < (r : Int) by omega)
      have HLB := Aside0.mk HL.out.2
      have HL1 := Aside0.mk HL.out.1
      clear HL
      go_wp2
      go_loopg [149] r (fun kq v w' => ∃ d : Nat, v = .int .i64 (d : Int) ∧ Aside0 (d + kq = r) ∧ Aside0 (Mx w' g r c b cap (ph2 M1 d)) ∧ Aside0 (∀ i j, ph2 M1 d i j < 256) ∧ Aside0 (Below w0.heap.size w0 w'))
      case atStart => exact ⟨0, rfl, ⟨by omega⟩, HM, HL1, HB⟩
      case round =>
        clear HM HB hmd
        obtain ⟨d, rfl, HD, HM, HL2, HB⟩ := hrel
        obtain ⟨M5, HM5⟩ : ∃ M5, Aside0 (ph2 M1 d = M5) := ⟨_, ⟨rfl⟩⟩
        rw [HM5.out] at HM HL2
        by_cases cd : d < r
        · have hmd := decide_eq_true (show (d : Int) < (r : Int) by omega)
          have hmd' : decide (d < r) = true := decide_eq_true cd
          go_wp2
          clear hmd hmd'
          go_loopg [153] d (fun kq v w' => ∃ i : Nat, v = .int .i64 (i : Int) ∧ Aside0 (i + kq = d) ∧ Aside0 (Mx w' g r c b cap (upR M5 d i)) ∧ Aside0 (∀ i' j, upR M5 d i i' j < 256) ∧ Aside0 (Below w0.heap.size w0 w'))
          case atStart => exact ⟨0, rfl, ⟨by omega⟩, HM, HL2, HB⟩
          case round =>
            clear HM HL2 HB
            obtain ⟨i, rfl, HI, HM, HL3, HB⟩ := hrel
            obtain ⟨M4, HM4⟩ : ∃ M4, Aside0 (upR M5 d i = M4) := ⟨_, ⟨rfl⟩⟩
            rw [HM4.out] at HM HL3
            by_cases cid : i < d
            · have ci : i < r := by omega
              have hii : i ≠ d := by omega
              have hmd := decide_eq_true (show (i : Int) < (d : Int) by omega)
              have hmd' : decide (i < d) = true := decide_eq_true cid
              have hli : ((i : Int) < (r : Int)) = True := eq_true (by omega)
              have hlr : ((d : Int) < (c : Int)) = True := eq_true (by omega)
              have hc1 := HM.out.cellO i ci
              have hc2 := HM.out.cellI i d ci (by omega)
              by_cases hz : M4 i d = 0
              · have hu : (((M4 i d : Nat) : Int) != 0) = false := bne_eq_false_iff_eq.2 (by omega)
                have hu' : (M4 i d != 0) = false := bne_eq_false_iff_eq.2 hz
                go_wp2
                go_roundg (d - i - 1)
                case measure => have := HI.out; omega
                case rel =>
                  have e : upR M5 d (i + 1) = M4 := by
                    show (if upR M5 d i i d = 0 then _ else _) = _
                    rw [HM4.out, if_pos hz]
                  exact ⟨i + 1, by first | rfl | simp, ⟨by omega⟩, ⟨by rw [e]; exact HM.out⟩, ⟨by rw [e]; exact HL3.out⟩, HB⟩
              · have hu : (((M4 i d : Nat) : Int) != 0) = true := bne_iff_ne.2 (by omega)
                have hu' : (M4 i d != 0) = true := bne_iff_ne.2 hz
                obtain ⟨s, HS⟩ : ∃ s, Aside0 (M4 i d = s) := ⟨_, ⟨rfl⟩⟩
                have hs256 := HL3.out i d
                rw [HS.out] at hc2 hu hu' hs256
                have HS256 := Aside0.mk hs256
                clear hs256
                go_wp2
                clear hc1 hc2 hmd hmd'
                go_loopg [172] c (fun kq v w' => ∃ j : Nat, v = .int .i64 (j : Int) ∧ Aside0 (j + kq = c) ∧ Aside0 (Mx w' g r c b cap (addTo M4 i d s j)) ∧ Aside0 (Below w0.heap.size w0 w'))
                case atStart => exact ⟨0, rfl, ⟨by omega⟩, ⟨HM.out.congr fun i' j' _ _ => by unfold addTo; rw [if_neg (by omega)]⟩, HB⟩
                case round =>
                  clear HM HB hu hu'
                  obtain ⟨j, rfl, HJ, HM, HB⟩ := hrel
                  by_cases cj : j < c
                  · have hmd := decide_eq_true (show (j : Int) < (c : Int) by omega)
                    have hmd' : decide (j < c) = true := decide_eq_true cj
                    have hlj : ((j : Int) < (c : Int)) = True := eq_true (by omega)
                    have hlp : ((d : Int) < (r : Int)) = True := eq_true (by omega)
                    have hx256 := HL3.out i j
                    have hy256 := HL3.out d j
                    have hcI := HM.out.cellI i j ci cj
                    have hcP := HM.out.cellI d j cd cj
                    rw [show addTo M4 i d s j i j = M4 i j by unfold addTo; rw [if_neg (by omega)]] at hcI
                    rw [show addTo M4 i d s j d j = M4 d j by unfold addTo; rw [if_neg (by omega)]] at hcP
                    obtain ⟨x, HX⟩ : ∃ x, Aside0 (M4 i j = x) := ⟨_, ⟨rfl⟩⟩
                    obtain ⟨y, HY⟩ : ∃ y, Aside0 (M4 d j = y) := ⟨_, ⟨rfl⟩⟩
                    rw [HX.out] at hcI hx256
                    rw [HY.out] at hcP hy256
                    obtain ⟨z, hzf, HZ⟩ : ∃ z : Nat, Aside0 (reedsolomon_galMultiply.f (s : Int) (y : Int) = some (z : Int)) ∧ Aside0 (z = gmul s y) := ⟨_, ⟨mul_f s y HS256.out hy256⟩, ⟨rfl⟩⟩
                    obtain ⟨t, htx, HT⟩ : ∃ t : Nat, bits .xor .u8 (x : Int) (z : Int) = (t : Int) ∧ Aside0 (t = x ^^^ z) := ⟨_, xor8 x z hx256 (by rw [HZ.out]; exact gmul_lt _ _), ⟨rfl⟩⟩
                    have HCI := Aside0.mk hcI
                    have HCP := Aside0.mk hcP
                    clear hcI hcP hx256 hy256
                    go_wp2
                    refine start_ (n := 19) (S := fun w' => w'.cell? ⟨g, i, none⟩ = some (.slice (some ⟨b i, 0, none⟩) c (cap i)) ∧ w'.cell? ⟨b i, j, none⟩ = some (.int .u8 (x : Int)) ∧ w'.cell? ⟨g, d, none⟩ = some (.slice (some ⟨b d, 0, none⟩) c (cap d)) ∧ w'.cell? ⟨b d, j, none⟩ = some (.int .u8 (y : Int))) (ds := [18]) #[false, false, false, false, false, false, false, false, false, false, false, false, false, false, false, false, false, false, false] (by kernel_rfl) rfl rfl (⟨HM.out.drew.cellO i ci, HCI.out, HM.out.drew.cellO d cd, HCP.out⟩) (fun hHeld => ?_)
                    refine with_tabW reedsolomon_matrix_gaussianElimination.tab45 reedsolomon_matrix_gaussianElimination.bits45 (fun HT_ HW_ => ?_)
                    refine pure_ (i := 0) (N := (some 175)) (v := ?_) (a' := ?_) #[true, false, false, false, false, false, false, false, false, false, false, false, false, false, false, false, false, false, false] rfl rfl (any_of HT_.out (by kernel_rfl)) (fun _ _ _ h => h) (Or.inl ⟨by rfl, ?_⟩) ?_ ?_
                    rotate_left
                    · intro w'
                      go_simp
                      with_reducible rfl
                    rotate_left
                    · simp only [Act.put, List.setIfInBounds_toArray, List.set_cons_zero, List.set_cons_succ, i64_w, i32_w]
                      rfl
                    refine pure_ (i := 1) (N := (some 176)) (v := ?_) (a' := ?_) #[true, true, false, false, false, false, false, false, false, false, false, false, false, false, false, false, false, false, false] rfl rfl (any_of HT_.out (by kernel_rfl)) (fun _ _ _ h => h) (Or.inl ⟨by rfl, ?_⟩) ?_ ?_
                    rotate_left
                    · intro w'
                      go_simp
                      with_reducible rfl
                    rotate_left
                    · simp only [Act.put, List.setIfInBounds_toArray, List.set_cons_zero, List.set_cons_succ, i64_w, i32_w]
                      rfl
                    refine pure_ (i := 2) (N := (some 177)) (v := ?_) (a' := ?_) #[true, true, true, false, false, false, false, false, false, false, false, false, false, false, false, false, false, false, false] rfl rfl (any_of HT_.out (by kernel_rfl)) (fun _ _ _ h => h) (Or.inl ⟨by rfl, ?_⟩) ?_ ?_
                    rotate_left
                    · intro w'
                      go_simp
                      with_reducible rfl
                    rotate_left
                    · simp only [Act.put, List.setIfInBounds_toArray, List.set_cons_zero, List.set_cons_succ, i64_w, i32_w]
                      rfl
                    refine take_ (i := 3) (N := (some 178)) (v := ?_) (a' := ?_) #[true, true, true, true, false, false, false, false, false, false, false, false, false, false, false, false, false, false, false] rfl rfl (take_ofW HT_.out HW_.out (by kernel_rfl)) (fun _ _ _ h => h) (Or.inl ⟨by rfl, ?_⟩) hHeld ?_ ?_
                    rotate_left
                    · rintro w' ⟨s0, s1, s2, s3⟩
                      go_simp
                      with_reducible rfl
                    rotate_left
                    · simp only [Act.put, List.setIfInBounds_toArray, List.set_cons_zero, List.set_cons_succ, i64_w, i32_w]
                      rfl
                    refine pure_ (i := 4) (N := (some 179)) (v := ?_) (a' := ?_) #[true, true, true, true, true, false, false, false, false, false, false, false, false, false, false, false, false, false, false] rfl rfl (any_of HT_.out (by kernel_rfl)) (fun _ _ _ h => h) (Or.inl ⟨by rfl, ?_⟩) ?_ ?_
                    rotate_left
                    · intro w'
                      go_simp
                      with_reducible rfl
                    rotate_left
                    · simp only [Act.put, List.setIfInBounds_toArray, List.set_cons_zero, List.set_cons_succ, i64_w, i32_w]
                      rfl
                    refine pure_ (i := 5) (N := (some 180)) (v := ?_) (a' := ?_) #[true, true, true, true, true, true, false, false, false, false, false, false, false, false, false, false, false, false, false] rfl rfl (any_of HT_.out (by kernel_rfl)) (fun _ _ _ h => h) (Or.inl ⟨by rfl, ?_⟩) ?_ ?_
                    rotate_left
                    · intro w'
                      go_simp
                      with_reducible rfl
                    rotate_left
                    · simp only [Act.put, List.setIfInBounds_toArray, List.set_cons_zero, List.set_cons_succ, i64_w, i32_w]
                      rfl
                    refine take_ (i := 6) (N := (some 181)) (v := ?_) (a' := ?_) #[true, true, true, true, true, true, true, false, false, false, false, false, false, false, false, false, false, false, false] rfl rfl (take_ofW HT_.out HW_.out (by kernel_rfl)) (fun _ _ _ h => h) (Or.inl ⟨by rfl, ?_⟩) hHeld ?_ ?_
                    rotate_left
                    · rintro w' ⟨s0, s1, s2, s3⟩
                      go_simp
                      with_reducible rfl
                    rotate_left
                    · simp only [Act.put, List.setIfInBounds_toArray, List.set_cons_zero, List.set_cons_succ, i64_w, i32_w]
                      rfl
                    refine pure_ (i := 7) (N := (some 182)) (v := ?_) (a' := ?_) #[true, true, true, true, true, true, true, true, false, false, false, false, false, false, false, false, false, false, false] rfl rfl (any_of HT_.out (by kernel_rfl)) (fun _ _ _ h => h) (Or.inl ⟨by rfl, ?_⟩) ?_ ?_
                    rotate_left
                    · intro w'
                      go_simp
                      with_reducible rfl
                    rotate_left
                    · simp only [Act.put, List.setIfInBounds_toArray, List.set_cons_zero, List.set_cons_succ, i64_w, i32_w]
                      rfl
                    refine pure_ (i := 8) (N := (some 183)) (v := ?_) (a' := ?_) #[true, true, true, true, true, true, true, true, true, false, false, false, false, false, false, false, false, false, false] rfl rfl (any_of HT_.out (by kernel_rfl)) (fun _ _ _ h => h) (Or.inl ⟨by rfl, ?_⟩) ?_ ?_
                    rotate_left
                    · intro w'
                      go_simp
                      with_reducible rfl
                    rotate_left
                    · simp only [Act.put, List.setIfInBounds_toArray, List.set_cons_zero, List.set_cons_succ, i64_w, i32_w]
                      rfl
                    refine pure_ (i := 9) (N := (some 184)) (v := ?_) (a' := ?_) #[true, true, true, true, true, true, true, true, true, true, false, false, false, false, false, false, false, false, false] rfl rfl (any_of HT_.out (by kernel_rfl)) (fun _ _ _ h => h) (Or.inl ⟨by rfl, ?_⟩) ?_ ?_
                    rotate_left
                    · intro w'
                      go_simp
                      with_reducible rfl
                    rotate_left
                    · simp only [Act.put, List.setIfInBounds_toArray, List.set_cons_zero, List.set_cons_succ, i64_w, i32_w]
                      rfl
                    refine pure_ (i := 10) (N := (some 185)) (v := ?_) (a' := ?_) #[true, true, true, true, true, true, true, true, true, true, true, false, false, false, false, false, false, false, false] rfl rfl (any_of HT_.out (by kernel_rfl)) (fun _ _ _ h => h) (Or.inl ⟨by rfl, ?_⟩) ?_ ?_
                    rotate_left
                    · intro w'
                      go_simp
                      with_reducible rfl
                    rotate_left
                    · simp only [Act.put, List.setIfInBounds_toArray, List.set_cons_zero, List.set_cons_succ, i64_w, i32_w]
                      rfl
                    refine take_ (i := 11) (N := (some 186)) (v := ?_) (a' := ?_) #[true, true, true, true, true, true, true, true, true, true, true, true, false, false, false, false, false, false, false] rfl rfl (take_ofW HT_.out HW_.out (by kernel_rfl)) (fun _ _ _ h => h) (Or.inl ⟨by rfl, ?_⟩) hHeld ?_ ?_
                    rotate_left
                    · rintro w' ⟨s0, s1, s2, s3⟩
                      go_simp
                      with_reducible rfl
                    rotate_left
                    · simp only [Act.put, List.setIfInBounds_toArray, List.set_cons_zero, List.set_cons_succ, i64_w, i32_w]
                      rfl
                    refine pure_ (i := 12) (N := (some 187)) (v := ?_) (a' := ?_) #[true, true, true, true, true, true, true, true, true, true, true, true, true, false, false, false, false, false, false] rfl rfl (any_of HT_.out (by kernel_rfl)) (fun _ _ _ h => h) (Or.inl ⟨by rfl, ?_⟩) ?_ ?_
                    rotate_left
                    · intro w'
                      go_simp
                      with_reducible rfl
                    rotate_left
                    · simp only [Act.put, List.setIfInBounds_toArray, List.set_cons_zero, List.set_cons_succ, i64_w, i32_w]
                      rfl
                    refine pure_ (i := 13) (N := (some 188)) (v := ?_) (a' := ?_) #[true, true, true, true, true, true, true, true, true, true, true, true, true, true, false, false, false, false, false] rfl rfl (any_of HT_.out (by kernel_rfl)) (fun _ _ _ h => h) (Or.inl ⟨by rfl, ?_⟩) ?_ ?_
                    rotate_left
                    · intro w'
                      go_simp
                      with_reducible rfl
                    rotate_left
                    · simp only [Act.put, List.setIfInBounds_toArray, List.set_cons_zero, List.set_cons_succ, i64_w, i32_w]
                      rfl
                    refine take_ (i := 14) (N := (some 189)) (v := ?_) (a' := ?_) #[true, true, true, true, true, true, true, true, true, true, true, true, true, true, true, false, false, false, false] rfl rfl (take_ofW HT_.out HW_.out (by kernel_rfl)) (fun _ _ _ h => h) (Or.inl ⟨by rfl, ?_⟩) hHeld ?_ ?_
                    rotate_left
                    · rintro w' ⟨s0, s1, s2, s3⟩
                      go_simp
                      with_reducible rfl
                    rotate_left
                    · simp only [Act.put, List.setIfInBounds_toArray, List.set_cons_zero, List.set_cons_succ, i64_w, i32_w]
                      rfl
                    refine one_ (i := 15) (N := (some 190)) #[true, true, true, true, true, true, true, true, true, true, true, true, true, true, true, true, false, false, false] rfl rfl (one_of HT_.out (by kernel_rfl)) (by decide) (fun K hK => ?_)
                    refine goes_ Tryd.func43 (by kernel_rfl) rfl #[.int .u8 (s : Int), .int .u8 (y : Int)] (by rfl) rfl rfl (by (try simp only [List.map_toArray, List.map_cons, List.map_nil]); first | done | rfl) ?_
                    with_reducible refine (reedsolomon_galMultiply.calls _ _ _ _ (hGF.below (below_drew1 HB.out)) hzf.out).mono ?_
                    rintro e6 w6 ⟨rfl, hd⟩
                    refine ⟨_, rfl, ?_⟩
                    have HM1 := Aside0.mk (show Mx w6 g r c b cap (addTo M4 i d s j) by obtain ⟨nn, rfl⟩ := hd; exact HM.out.drew.drewN nn)
                    have HB1 := Aside0.mk (show Below w0.heap.size w0 w6 by obtain ⟨nn, rfl⟩ := hd; exact pw_below_drewN (below_drew1 HB.out) nn)
                    have hcx : w6.cell? ⟨b i, j, none⟩ = some (.int .u8 (x : Int)) := by obtain ⟨nn, rfl⟩ := hd; exact HCI.out
                    have hcy : w6.cell? ⟨b d, j, none⟩ = some (.int .u8 (y : Int)) := by obtain ⟨nn, rfl⟩ := hd; exact HCP.out
                    have HCX := Aside0.mk hcx
                    clear hd HM HB HCI HCP
                    refine hK.out _ _ ⟨HM1.out.cellO i ci, hcx, HM1.out.cellO d cd, hcy⟩ (fun hHeld => ?_)
                    clear hcx hcy
                    clear hK K
                    refine norm_ (a' := ?_) ?_ ?_
                    rotate_left
                    · show Act.put _ (some 190) _ = _
                      simp only [Act.put, List.setIfInBounds_toArray, List.set_cons_zero, List.set_cons_succ, i64_w, i32_w]
                      rfl
                    refine pure_ (i := 16) (N := (some 191)) (v := ?_) (a' := ?_) #[true, true, true, true, true, true, true, true, true, true, true, true, true, true, true, true, true, false, false] rfl rfl (any_of HT_.out (by kernel_rfl)) (fun _ _ _ h => h) (Or.inl ⟨by rfl, ?_⟩) ?_ ?_
                    rotate_left
                    · intro w'
                      go_simp
                      with_reducible rfl
                    rotate_left
                    · simp only [Act.put, List.setIfInBounds_toArray, List.set_cons_zero, List.set_cons_succ, i64_w, i32_w]
                      rfl
                    refine pure_ (i := 17) (N := (some 192)) (v := ?_) (a' := ?_) #[true, true, true, true, true, true, true, true, true, true, true, true, true, true, true, true, true, true, false] rfl rfl (any_of HT_.out (by kernel_rfl)) (fun _ _ _ h => h) (Or.inl ⟨by rfl, ?_⟩) ?_ ?_
                    rotate_left
                    · intro w'
                      go_simp
                      with_reducible rfl
                    rotate_left
                    · simp only [Act.put, List.setIfInBounds_toArray, List.set_cons_zero, List.set_cons_succ, i64_w, i32_w]
                      rfl
                    have hcx := HCX.out
                    have hfx := HM1.out.frozenI i j ci
                    refine last_ (i := 18) (N := none) #[true, true, true, true, true, true, true, true, true, true, true, true, true, true, true, true, true, true, true] rfl rfl (one_of HT_.out (by kernel_rfl)) (by decide) (fun K hK => ?_)
                    refine skip_ (w1 := ?_) (by rfl) rfl ?_ ?_
                    rotate_left
                    · go_simp
                      rfl
                    refine hK.out _ _ ?_
                    clear hK K
                    refine done_ (done_of HT_.out (by kernel_rfl)) ?_
                    go_wp2
                    have HM2 := Aside0.mk (HM1.out.set i j t ci)
                    have HB2 := Aside0.mk (below_set (j := j) (v := .int .u8 (t : Int)) HB1.out (HLB.out i ci))
                    go_roundg (c - j - 1)
                    case measure => have := HJ.out; omega
                    case rel =>
                      refine ⟨j + 1, by first | rfl | simp, ⟨by omega⟩, ⟨HM2.out.congr fun i' j' _ _ => ?_⟩, HB2⟩
                      unfold addTo
                      by_cases e : i' = i ∧ j' = j
                      · rw [if_pos e, if_pos ⟨e.1, by omega⟩, e.2, HX.out, HY.out, HT.out, HZ.out]
                      · rw [if_neg e]
                        by_cases e2 : i' = i ∧ j' < j
                        · rw [if_pos e2, if_pos ⟨e2.1, by omega⟩]
                        · rw [if_neg e2, if_neg (by omega)]
                  · have hmd := decide_eq_false (show ¬ (j : Int) < (c : Int) by omega)
                    have hjc : j = c := by have := HJ.out; omega
                    subst hjc
                    go_wp2
                    have e : upR M5 d (i + 1) = addR M4 i d s := by
                      show (if upR M5 d i i d = 0 then _ else _) = _
                      rw [HM4.out, if_neg hz, HS.out]
                    go_roundg (d - i - 1)
                    case measure => have := HI.out; omega
                    case rel => exact ⟨i + 1, by first | rfl | simp, ⟨by omega⟩, ⟨by rw [e]; exact HM.out.congr fun i' j' _ hj' => addTo_all M4 i d s j i' j' hj'⟩, ⟨by rw [e]; exact addR_lt HL3.out _ _ _⟩, HB⟩
            · have hid : i = d := by have := HI.out; omega
              subst hid
              have hmd := decide_eq_false (show ¬ (i : Int) < (i : Int) by omega)
              go_wp2
              go_roundg (r - i - 1)
              case measure => have := HD.out; omega
              case rel =>
                have e : ph2 M1 (i + 1) = M4 := by
                  show upR (ph2 M1 i) i i = _
                  rw [HM5.out, HM4.out]
                exact ⟨i + 1, by first | rfl | simp, ⟨by omega⟩, ⟨by rw [e]; exact HM.out⟩, ⟨by rw [e]; exact HL3.out⟩, HB⟩
        · have hdr : d = r := by have := HD.out; omega
          subst hdr
          have hmd := decide_eq_false (show ¬ (d : Int) < (d : Int) by omega)
          have hG : gaussR d M = some M5 := by
            unfold gaussR
            rw [HR.out.2]
            show some (ph2 M1 d) = some M5
            rw [HM5.out]
          have he0 : E = none := by
            rw [HE.out, hG]
            rfl
          have HG := Aside0.mk hG
          have HE0 := Aside0.mk he0
          clear hG he0
          go_wp2
          go_ret
          exact ⟨⟨0, 0, none⟩, by rw [HE0.out]; rfl, fun M' hM' => (by rw [HG.out] at hM'; obtain rfl := Option.some.inj hM'; exact ⟨b, cap, HM.out⟩), HB.out⟩
end Go.Proofs.YtpeikjnkbjabpaaDoor.V
