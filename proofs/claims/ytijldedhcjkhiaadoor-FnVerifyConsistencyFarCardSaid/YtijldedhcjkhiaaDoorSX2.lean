import Derived.Test.YtijldedhcjkhiaaDoorSX0
namespace Go.Proofs.YtijldedhcjkhiaaDoor.X
open Go.RowKit Go.Proofs.YtijldedhcjkhiaaDoorW.PrintWords Go.Proofs.YtijldedhcjkhiaaDoorW.PrintLast Go.Proofs.YtijldedhcjkhiaaDoorW.PrintMore
attribute [local go_sem] max2_int min2_int max_two min_two max_three min_three max_four min_four   -- for this text's walks alone
set_option linter.unusedVariables false
set_option linter.unusedSimpArgs false
def bits_TrailingZeros64.f (a0 : Int) : Option (Int) := if 0 ≤ a0 then (if a0 ≤ 18446744073709551615 then (some ((Lib.ctz 64 a0.toNat : Nat) : Int)) else (none)) else (none)
theorem bits_TrailingZeros64.key (x a : Nat) (hx : x < 18446744073709551616) (hx0 : x ≠ 0) (hlow : x &&& (18446744073709551616 - x) = a) :
    IntKind.u64.wrap (bits BinOp.and IntKind.u64 (x : Int) (IntKind.u64.wrap (-(x : Int))) * 285870213051353865) / 288230376151711744 = ((a * 285870213051353865 % 18446744073709551616 / 288230376151711744 : Nat) : Int) := by
  have hw : ∀ n : Int, IntKind.u64.wrap n = n % 18446744073709551616 := fun n => by simp [IntKind.wrap, IntKind.bits, IntKind.signed]
  have e1 : IntKind.u64.wrap (-(x : Int)) = ((18446744073709551616 - x : Nat) : Int) := by rw [hw]; omega
  rw [e1, bits_and_u64_nat x _ hx (by omega), hlow, hw]
  omega
set_option maxHeartbeats 1000000 in
theorem bits_TrailingZeros64.core (x k idx : Nat) (w : World) (hx0 : ((x : Int) == 0) = false)
    (key : IntKind.u64.wrap (bits BinOp.and IntKind.u64 (x : Int) (IntKind.u64.wrap (-(x : Int))) * 285870213051353865) / 288230376151711744 = (idx : Int))
    (hi : idx < 64) (hk : k < 64) (hcell : w.cell? ⟨0, idx, none⟩ = some (.int .u8 k)) :
    Calls Tryd.prog 109 #[.int .u64 x] w fun e w' => e = .returned (.int .i64 k) ∧ Drawn0 w w' := by
  go_enter Tryd.func109, Tryd.ntmps109
  go_wp2_with (simp only [key])
  go_ret
  exact ⟨rfl, Drawn0.refl _⟩
theorem bits_TrailingZeros64.zero (w : World) :
    Calls Tryd.prog 109 #[.int .u64 0] w fun e w' => e = .returned (.int .i64 64) ∧ Drawn0 w w' := by
  go_enter Tryd.func109, Tryd.ntmps109
  go_wp2
  go_ret
  exact ⟨rfl, Drawn0.refl _⟩
theorem bits_TrailingZeros64.calls (a0 : Int) (r : Int) (w : World) (hGT : GlobT w) (h : bits_TrailingZeros64.f a0 = some r) :
    Calls Tryd.prog 109 #[.int .u64 a0] w fun e w' => e = .returned (.int .i64 r) ∧ Drawn0 w w' := by
  have hh : (0 ≤ a0 ∧ a0 ≤ 18446744073709551615) ∧ r = ((Lib.ctz 64 a0.toNat : Nat) : Int) := by
    unfold bits_TrailingZeros64.f at h
    by_cases h0 : 0 ≤ a0
    · rw [if_pos h0] at h
      by_cases h1 : a0 ≤ 18446744073709551615
      · rw [if_pos h1] at h
        exact ⟨⟨h0, h1⟩, (Option.some.inj h).symm⟩
      · rw [if_neg h1] at h
        exact absurd h (by simp)
    · rw [if_neg h0] at h
      exact absurd h (by simp)
  clear h
  obtain ⟨⟨h0, h1⟩, hr⟩ := hh
  subst hr
  obtain ⟨x, rfl⟩ := Int.eq_ofNat_of_zero_le h0
  rw [Int.toNat_natCast]
  by_cases hx0 : x = 0
  · subst hx0
    exact bits_TrailingZeros64.zero w
  · have hx : x < 2 ^ 64 := by rw [show 2 ^ 64 = 18446744073709551616 from by decide]; omega
    obtain ⟨hlow, hk⟩ := Lib.lowest_bit 64 x hx0 hx
    obtain ⟨hi, htab⟩ := Lib.deBruijn64_at _ hk
    have hcell := hGT.out _ hi
    rw [htab] at hcell
    exact bits_TrailingZeros64.core x _ _ w (by simp; omega) (bits_TrailingZeros64.key x _ (by omega) hx0 hlow) hi hk hcell
def bits_Len64.f (a0 : Int) : Option (Int) := if 0 ≤ a0 then (if a0 ≤ 18446744073709551615 then (some ((Lib.bitLen a0.toNat : Nat) : Int)) else (none)) else (none)
theorem bits_Len64.w8 (c b : Nat) (h : b ≤ 8) (hc : c ≤ 56) : wrap64 ((c : Int) + wrap64 (b : Int)) = ((c + b : Nat) : Int) := by
  unfold wrap64
  omega
theorem bits_Len64.w0 (b : Nat) (h : b ≤ 8) : wrap64 (wrap64 (b : Int)) = (b : Int) := by
  unfold wrap64
  omega
theorem bits_Len64.fin56 (a0 : Int) (h0 : 0 ≤ a0) (h1 : a0 ≤ 18446744073709551615) (hA : 4294967296 ≤ a0) (hB : 65536 ≤ a0 / 4294967296) (hC : 256 ≤ a0 / 4294967296 / 65536) : 0 ≤ a0 / 4294967296 / 65536 / 256 ∧ a0 / 4294967296 / 65536 / 256 ≤ 255 ∧ wrap64 (56 + wrap64 (Lib.len8 (a0 / 4294967296 / 65536 / 256))) = ((Lib.bitLen a0.toNat : Nat) : Int) := by
  have p : 0 ≤ a0 / 4294967296 / 65536 / 256 := by omega
  have q : a0 / 4294967296 / 65536 / 256 ≤ 255 := by omega
  refine ⟨p, q, ?_⟩
  rw [Lib.len8_of (a0 / 4294967296 / 65536 / 256) p q]
  have e : (a0 / 4294967296 / 65536 / 256).toNat = a0.toNat / 72057594037927936 := by omega
  have l := Lib.bitLen_le8' (a0 / 4294967296 / 65536 / 256) p q
  have s := Lib.bitLen_shift56 a0.toNat (by omega) (by omega)
  rw [e] at l ⊢
  rw [s]
  exact bits_Len64.w8 56 _ l (by decide)
theorem bits_Len64.fin48 (a0 : Int) (h0 : 0 ≤ a0) (h1 : a0 ≤ 18446744073709551615) (hA : 4294967296 ≤ a0) (hB : 65536 ≤ a0 / 4294967296) (hC : 256 > a0 / 4294967296 / 65536) : 0 ≤ a0 / 4294967296 / 65536 ∧ a0 / 4294967296 / 65536 ≤ 255 ∧ wrap64 (48 + wrap64 (Lib.len8 (a0 / 4294967296 / 65536))) = ((Lib.bitLen a0.toNat : Nat) : Int) := by
  have p : 0 ≤ a0 / 4294967296 / 65536 := by omega
  have q : a0 / 4294967296 / 65536 ≤ 255 := by omega
  refine ⟨p, q, ?_⟩
  rw [Lib.len8_of (a0 / 4294967296 / 65536) p q]
  have e : (a0 / 4294967296 / 65536).toNat = a0.toNat / 281474976710656 := by omega
  have l := Lib.bitLen_le8' (a0 / 4294967296 / 65536) p q
  have s := Lib.bitLen_shift48 a0.toNat (by omega) (by omega)
  rw [e] at l ⊢
  rw [s]
  exact bits_Len64.w8 48 _ l (by decide)
theorem bits_Len64.fin40 (a0 : Int) (h0 : 0 ≤ a0) (h1 : a0 ≤ 18446744073709551615) (hA : 4294967296 ≤ a0) (hB : 65536 > a0 / 4294967296) (hC : 256 ≤ a0 / 4294967296) : 0 ≤ a0 / 4294967296 / 256 ∧ a0 / 4294967296 / 256 ≤ 255 ∧ wrap64 (40 + wrap64 (Lib.len8 (a0 / 4294967296 / 256))) = ((Lib.bitLen a0.toNat : Nat) : Int) := by
  have p : 0 ≤ a0 / 4294967296 / 256 := by omega
  have q : a0 / 4294967296 / 256 ≤ 255 := by omega
  refine ⟨p, q, ?_⟩
  rw [Lib.len8_of (a0 / 4294967296 / 256) p q]
  have e : (a0 / 4294967296 / 256).toNat = a0.toNat / 1099511627776 := by omega
  have l := Lib.bitLen_le8' (a0 / 4294967296 / 256) p q
  have s := Lib.bitLen_shift40 a0.toNat (by omega) (by omega)
  rw [e] at l ⊢
  rw [s]
  exact bits_Len64.w8 40 _ l (by decide)
theorem bits_Len64.fin32 (a0 : Int) (h0 : 0 ≤ a0) (h1 : a0 ≤ 18446744073709551615) (hA : 4294967296 ≤ a0) (hB : 65536 > a0 / 4294967296) (hC : 256 > a0 / 4294967296) : 0 ≤ a0 / 4294967296 ∧ a0 / 4294967296 ≤ 255 ∧ wrap64 (32 + wrap64 (Lib.len8 (a0 / 4294967296))) = ((Lib.bitLen a0.toNat : Nat) : Int) := by
  have p : 0 ≤ a0 / 4294967296 := by omega
  have q : a0 / 4294967296 ≤ 255 := by omega
  refine ⟨p, q, ?_⟩
  rw [Lib.len8_of (a0 / 4294967296) p q]
  have e : (a0 / 4294967296).toNat = a0.toNat / 4294967296 := by omega
  have l := Lib.bitLen_le8' (a0 / 4294967296) p q
  have s := Lib.bitLen_shift32 a0.toNat (by omega) (by omega)
  rw [e] at l ⊢
  rw [s]
  exact bits_Len64.w8 32 _ l (by decide)
theorem bits_Len64.fin24 (a0 : Int) (h0 : 0 ≤ a0) (h1 : a0 ≤ 18446744073709551615) (hA : 4294967296 > a0) (hB : 65536 ≤ a0) (hC : 256 ≤ a0 / 65536) : 0 ≤ a0 / 65536 / 256 ∧ a0 / 65536 / 256 ≤ 255 ∧ wrap64 (24 + wrap64 (Lib.len8 (a0 / 65536 / 256))) = ((Lib.bitLen a0.toNat : Nat) : Int) := by
  have p : 0 ≤ a0 / 65536 / 256 := by omega
  have q : a0 / 65536 / 256 ≤ 255 := by omega
  refine ⟨p, q, ?_⟩
  rw [Lib.len8_of (a0 / 65536 / 256) p q]
  have e : (a0 / 65536 / 256).toNat = a0.toNat / 16777216 := by omega
  have l := Lib.bitLen_le8' (a0 / 65536 / 256) p q
  have s := Lib.bitLen_shift24 a0.toNat (by omega) (by omega)
  rw [e] at l ⊢
  rw [s]
  exact bits_Len64.w8 24 _ l (by decide)
theorem bits_Len64.fin16 (a0 : Int) (h0 : 0 ≤ a0) (h1 : a0 ≤ 18446744073709551615) (hA : 4294967296 > a0) (hB : 65536 ≤ a0) (hC : 256 > a0 / 65536) : 0 ≤ a0 / 65536 ∧ a0 / 65536 ≤ 255 ∧ wrap64 (16 + wrap64 (Lib.len8 (a0 / 65536))) = ((Lib.bitLen a0.toNat : Nat) : Int) := by
  have p : 0 ≤ a0 / 65536 := by omega
  have q : a0 / 65536 ≤ 255 := by omega
  refine ⟨p, q, ?_⟩
  rw [Lib.len8_of (a0 / 65536) p q]
  have e : (a0 / 65536).toNat = a0.toNat / 65536 := by omega
  have l := Lib.bitLen_le8' (a0 / 65536) p q
  have s := Lib.bitLen_shift16 a0.toNat (by omega) (by omega)
  rw [e] at l ⊢
  rw [s]
  exact bits_Len64.w8 16 _ l (by decide)
theorem bits_Len64.fin8 (a0 : Int) (h0 : 0 ≤ a0) (h1 : a0 ≤ 18446744073709551615) (hA : 4294967296 > a0) (hB : 65536 > a0) (hC : 256 ≤ a0) : 0 ≤ a0 / 256 ∧ a0 / 256 ≤ 255 ∧ wrap64 (8 + wrap64 (Lib.len8 (a0 / 256))) = ((Lib.bitLen a0.toNat : Nat) : Int) := by
  have p : 0 ≤ a0 / 256 := by omega
  have q : a0 / 256 ≤ 255 := by omega
  refine ⟨p, q, ?_⟩
  rw [Lib.len8_of (a0 / 256) p q]
  have e : (a0 / 256).toNat = a0.toNat / 256 := by omega
  have l := Lib.bitLen_le8' (a0 / 256) p q
  have s := Lib.bitLen_shift8 a0.toNat (by omega) (by omega)
  rw [e] at l ⊢
  rw [s]
  exact bits_Len64.w8 8 _ l (by decide)
theorem bits_Len64.fin0 (a0 : Int) (h0 : 0 ≤ a0) (h1 : a0 ≤ 18446744073709551615) (hA : 4294967296 > a0) (hB : 65536 > a0) (hC : 256 > a0) : 0 ≤ a0 ∧ a0 ≤ 255 ∧ wrap64 (wrap64 (Lib.len8 (a0))) = ((Lib.bitLen a0.toNat : Nat) : Int) := by
  have p : 0 ≤ a0 := by omega
  have q : a0 ≤ 255 := by omega
  refine ⟨p, q, ?_⟩
  rw [Lib.len8_of (a0) p q]
  have e : (a0).toNat = a0.toNat := by omega
  have l := Lib.bitLen_le8' (a0) p q
  rw [e] at l ⊢
  exact bits_Len64.w0 _ l
set_option maxHeartbeats 8000000 in
set_option maxRecDepth 100000 in
theorem bits_Len64.calls (a0 : Int) (r : Int) (w : World) (h : bits_Len64.f a0 = some r) :
    Calls Tryd.prog 110 #[.int .u64 a0] w fun e w' => e = .returned (.int .i64 r) ∧ Drawn0 w w' := by
  have hh : (0 ≤ a0 ∧ a0 ≤ 18446744073709551615) ∧ r = ((Lib.bitLen a0.toNat : Nat) : Int) := by
    unfold bits_Len64.f at h
    by_cases h0 : 0 ≤ a0
    · rw [if_pos h0] at h
      by_cases h1 : a0 ≤ 18446744073709551615
      · rw [if_pos h1] at h
        exact ⟨⟨h0, h1⟩, (Option.some.inj h).symm⟩
      · rw [if_neg h1] at h
        exact absurd h (by simp)
    · rw [if_neg h0] at h
      exact absurd h (by simp)
  clear h
  obtain ⟨⟨h0, h1⟩, hr⟩ := hh
  subst hr
  by_cases hA : 4294967296 ≤ a0
  · by_cases hB : 65536 ≤ a0 / 4294967296
    · by_cases hC : 256 ≤ a0 / 4294967296 / 65536
      · obtain ⟨p, q, fin⟩ := bits_Len64.fin56 a0 h0 h1 hA hB hC
        have cA : decide (4294967296 ≤ a0) = true := decide_eq_true hA
        have cB : decide (65536 ≤ a0 / 4294967296) = true := decide_eq_true hB
        have cC : decide (256 ≤ a0 / 4294967296 / 65536) = true := decide_eq_true hC
        have FIN := Aside0.mk fin
        clear fin h0 h1 hA hB hC
        go_enter Tryd.func110, Tryd.ntmps110
        go_wp2
        go_ret
        exact ⟨congrArg Ending.returned (congrArg (Value.int IntKind.i64) FIN.out), Drawn0.refl _⟩
      · obtain ⟨p, q, fin⟩ := bits_Len64.fin48 a0 h0 h1 hA hB (Int.not_le.mp hC)
        have cA : decide (4294967296 ≤ a0) = true := decide_eq_true hA
        have cB : decide (65536 ≤ a0 / 4294967296) = true := decide_eq_true hB
        have cC : decide (256 ≤ a0 / 4294967296 / 65536) = false := decide_eq_false hC
        have FIN := Aside0.mk fin
        clear fin h0 h1 hA hB hC
        go_enter Tryd.func110, Tryd.ntmps110
        go_wp2
        go_ret
        exact ⟨congrArg Ending.returned (congrArg (Value.int IntKind.i64) FIN.out), Drawn0.refl _⟩
    · by_cases hC : 256 ≤ a0 / 4294967296
      · obtain ⟨p, q, fin⟩ := bits_Len64.fin40 a0 h0 h1 hA (Int.not_le.mp hB) hC
        have cA : decide (4294967296 ≤ a0) = true := decide_eq_true hA
        have cB : decide (65536 ≤ a0 / 4294967296) = false := decide_eq_false hB
        have cC : decide (256 ≤ a0 / 4294967296) = true := decide_eq_true hC
        have FIN := Aside0.mk fin
        clear fin h0 h1 hA hB hC
        go_enter Tryd.func110, Tryd.ntmps110
        go_wp2
        go_ret
        exact ⟨congrArg Ending.returned (congrArg (Value.int IntKind.i64) FIN.out), Drawn0.refl _⟩
      · obtain ⟨p, q, fin⟩ := bits_Len64.fin32 a0 h0 h1 hA (Int.not_le.mp hB) (Int.not_le.mp hC)
        have cA : decide (4294967296 ≤ a0) = true := decide_eq_true hA
        have cB : decide (65536 ≤ a0 / 4294967296) = false := decide_eq_false hB
        have cC : decide (256 ≤ a0 / 4294967296) = false := decide_eq_false hC
        have FIN := Aside0.mk fin
        clear fin h0 h1 hA hB hC
        go_enter Tryd.func110, Tryd.ntmps110
        go_wp2
        go_ret
        exact ⟨congrArg Ending.returned (congrArg (Value.int IntKind.i64) FIN.out), Drawn0.refl _⟩
  · by_cases hB : 65536 ≤ a0
    · by_cases hC : 256 ≤ a0 / 65536
      · obtain ⟨p, q, fin⟩ := bits_Len64.fin24 a0 h0 h1 (Int.not_le.mp hA) hB hC
        have cA : decide (4294967296 ≤ a0) = false := decide_eq_false hA
        have cB : decide (65536 ≤ a0) = true := decide_eq_true hB
        have cC : decide (256 ≤ a0 / 65536) = true := decide_eq_true hC
        have FIN := Aside0.mk fin
        clear fin h0 h1 hA hB hC
        go_enter Tryd.func110, Tryd.ntmps110
        go_wp2
        go_ret
        exact ⟨congrArg Ending.returned (congrArg (Value.int IntKind.i64) FIN.out), Drawn0.refl _⟩
      · obtain ⟨p, q, fin⟩ := bits_Len64.fin16 a0 h0 h1 (Int.not_le.mp hA) hB (Int.not_le.mp hC)
        have cA : decide (4294967296 ≤ a0) = false := decide_eq_false hA
        have cB : decide (65536 ≤ a0) = true := decide_eq_true hB
        have cC : decide (256 ≤ a0 / 65536) = false := decide_eq_false hC
        have FIN := Aside0.mk fin
        clear fin h0 h1 hA hB hC
        go_enter Tryd.func110, Tryd.ntmps110
        go_wp2
        go_ret
        exact ⟨congrArg Ending.returned (congrArg (Value.int IntKind.i64) FIN.out), Drawn0.refl _⟩
    · by_cases hC : 256 ≤ a0
      · obtain ⟨p, q, fin⟩ := bits_Len64.fin8 a0 h0 h1 (Int.not_le.mp hA) (Int.not_le.mp hB) hC
        have cA : decide (4294967296 ≤ a0) = false := decide_eq_false hA
        have cB : decide (65536 ≤ a0) = false := decide_eq_false hB
        have cC : decide (256 ≤ a0) = true := decide_eq_true hC
        have FIN := Aside0.mk fin
        clear fin h0 h1 hA hB hC
        go_enter Tryd.func110, Tryd.ntmps110
        go_wp2
        go_ret
        exact ⟨congrArg Ending.returned (congrArg (Value.int IntKind.i64) FIN.out), Drawn0.refl _⟩
      · obtain ⟨p, q, fin⟩ := bits_Len64.fin0 a0 h0 h1 (Int.not_le.mp hA) (Int.not_le.mp hB) (Int.not_le.mp hC)
        have cA : decide (4294967296 ≤ a0) = false := decide_eq_false hA
        have cB : decide (65536 ≤ a0) = false := decide_eq_false hB
        have cC : decide (256 ≤ a0) = false := decide_eq_false hC
        have FIN := Aside0.mk fin
        clear fin h0 h1 hA hB hC
        go_enter Tryd.func110, Tryd.ntmps110
        go_wp2
        go_ret
        exact ⟨congrArg Ending.returned (congrArg (Value.int IntKind.i64) FIN.out), Drawn0.refl _⟩
def compact_getMergePath.f (a0 : Int) (a1 : Int) (a2 : Int) : Option (Int × Int) := (bits_TrailingZeros64.f a1).bind fun t101 => (if a0 = 0 then ((bits_Len64.f (Go.bits .xor .u64 (IntKind.u64.wrap (a1 - 1)) a2)).bind fun t102 => (if t102 < 64 then (some (IntKind.u64.wrap (t101), IntKind.u64.wrap (wrap64 (t102 - 1)))) else (some (IntKind.u64.wrap (t101), 64 - 1)))) else ((bits_Len64.f (Go.bits .xor .u64 a1 (IntKind.u64.wrap (a0 - 1)))).bind fun t103 => ((bits_Len64.f (Go.bits .xor .u64 (IntKind.u64.wrap (a1 - 1)) a2)).bind fun t104 => (if t104 < t103 then (some (IntKind.u64.wrap (t101), IntKind.u64.wrap (wrap64 (t104 - 1)))) else (some (IntKind.u64.wrap (t101), IntKind.u64.wrap (wrap64 (t103 - 1))))))))
def compact_DoorMergePath.f (a0 : Int) (a1 : Int) (a2 : Int) : Option (Int × Int) := (compact_getMergePath.f a0 a1 a2).bind fun bt105 => (some (bt105.1, bt105.2))
def impl_MergePath.f (a0 : Int) (a1 : Int) (a2 : Int) : Option (Int × Int) := (compact_DoorMergePath.f a0 a1 a2).bind fun bt107 => (some (bt107.1, bt107.2))
mutual
def spec_Nodes.l0 : Nat → List (S70) → Int → Int → Option ((List (S70)))
  | 0, _, _, _ => none
  | k + 1, x3, x110000, x110001 => if x110000 < x110001 then (spec_Nodes.l1 k x3 0 x110000 x110001) else (some x3)
def spec_Nodes.l1 : Nat → List (S70) → Int → Int → Int → Option ((List (S70)))
  | 0, _, _, _, _ => none
  | k + 1, x3, x4, x110000, x110001 => if x4 < 63 then (if 0 ≤ x4 then (if (Go.bits .and .u64 (shr .u64 x110000 x4) 1) = 0 then (if 0 ≤ (IntKind.u64.wrap (x4 + 1)) then (if (shl .u64 1 (IntKind.u64.wrap (x4 + 1))) ≤ (IntKind.u64.wrap (x110001 - x110000)) then (spec_Nodes.l1 k x3 (IntKind.u64.wrap (x4 + 1)) x110000 x110001) else (if x3.length < 8796093022208 then (spec_Nodes.l0 k (x3 ++ [(⟨x4, shr .u64 x110000 x4⟩ : S70)]) (IntKind.u64.wrap (x110000 + (shl .u64 1 x4))) x110001) else (none))) else (none)) else (if x3.length < 8796093022208 then (spec_Nodes.l0 k (x3 ++ [(⟨x4, shr .u64 x110000 x4⟩ : S70)]) (IntKind.u64.wrap (x110000 + (shl .u64 1 x4))) x110001) else (none))) else (none)) else (if 0 ≤ x4 then (if x3.length < 8796093022208 then (spec_Nodes.l0 k (x3 ++ [(⟨x4, shr .u64 x110000 x4⟩ : S70)]) (IntKind.u64.wrap (x110000 + (shl .u64 1 x4))) x110001) else (none)) else (none))
end
def spec_Nodes.f (k : Nat) (a0_0 : Int) (a0_1 : Int) : Option ((List (S70))) := spec_Nodes.l0 k ([] : List (S70)) a0_0 a0_1
theorem spec_Nodes.mono_l : ∀ k, (∀ y0 y1 y2, LeO (spec_Nodes.l0 k y0 y1 y2) (spec_Nodes.l0 (k + 1) y0 y1 y2)) ∧ (∀ y0 y1 y2 y3, LeO (spec_Nodes.l1 k y0 y1 y2 y3) (spec_Nodes.l1 (k + 1) y0 y1 y2 y3))
  | 0 => ⟨fun _ _ _ r h => by simp [spec_Nodes.l0] at h, fun _ _ _ _ r h => by simp [spec_Nodes.l1] at h⟩
  | k + 1 => by
    obtain ⟨ih0, ih1⟩ := spec_Nodes.mono_l k
    refine ⟨?_, ?_⟩
    · intro y0 y1 y2
      unfold spec_Nodes.l0
      repeat' first
      | (with_reducible exact ih0 _ _ _)
      | (with_reducible exact ih1 _ _ _ _)
      | (with_reducible exact LeO.refl _)
      | (with_reducible exact LeO.none _)
      | (with_reducible refine LeO.ite ?_ ?_)
      | (with_reducible refine LeO.bind ?_ (fun _ => ?_))
      | exact ih0 _ _ _
      | exact ih1 _ _ _ _
      | exact LeO.none _
      | refine LeO.ite ?_ ?_
      | refine LeO.bind ?_ (fun _ => ?_)
    · intro y0 y1 y2 y3
      unfold spec_Nodes.l1
      repeat' first
      | (with_reducible exact ih0 _ _ _)
      | (with_reducible exact ih1 _ _ _ _)
      | (with_reducible exact LeO.refl _)
      | (with_reducible exact LeO.none _)
      | (with_reducible refine LeO.ite ?_ ?_)
      | (with_reducible refine LeO.bind ?_ (fun _ => ?_))
      | exact ih0 _ _ _
      | exact ih1 _ _ _ _
      | exact LeO.none _
      | refine LeO.ite ?_ ?_
      | refine LeO.bind ?_ (fun _ => ?_)
theorem spec_Nodes.mono : ∀ a0 a1 k, LeO (spec_Nodes.f k a0 a1) (spec_Nodes.f (k + 1) a0 a1) := by
  intro a0 a1 k
  obtain ⟨ih0, ih1⟩ := spec_Nodes.mono_l k
  unfold spec_Nodes.f
  repeat' first
      | (with_reducible exact ih0 _ _ _)
      | (with_reducible exact ih1 _ _ _ _)
      | (with_reducible exact LeO.refl _)
      | (with_reducible exact LeO.none _)
      | (with_reducible refine LeO.ite ?_ ?_)
      | (with_reducible refine LeO.bind ?_ (fun _ => ?_))
      | exact ih0 _ _ _
      | exact ih1 _ _ _ _
      | exact LeO.none _
      | refine LeO.ite ?_ ?_
      | refine LeO.bind ?_ (fun _ => ?_)
end Go.Proofs.YtijldedhcjkhiaaDoor.X
