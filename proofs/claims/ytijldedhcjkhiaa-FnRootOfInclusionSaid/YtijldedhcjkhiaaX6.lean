-- laid by xprint.py (a program of this session over the kit's print); Lean checks it
import Derived.Test.YtijldedhcjkhiaaX0
import Derived.Test.YtijldedhcjkhiaaX2
import Derived.Test.YtijldedhcjkhiaaX3
namespace Go.Proofs.Ytijldedhcjkhiaa.X
open Go.RowKit Go.Proofs.YtijldedhcjkhiaaW.PrintWords Go.Proofs.YtijldedhcjkhiaaW.PrintLast Go.Proofs.YtijldedhcjkhiaaW.PrintMore
attribute [local go_sem] max2_int min2_int max_two min_two max_three min_three max_four min_four   -- for this text's walks alone
set_option linter.unusedVariables false
set_option linter.unusedSimpArgs false

/-! ### errors_New: function 24 (given) -/
def errors_New.f (a0 : ByteArray) : Option (Option Int) := some (some 0)
theorem errors_New.calls (a0 : ByteArray) (r : Option Int) (w : World) (h : errors_New.f a0 = some r) :
    Calls Try.prog 24 #[.string a0] w fun e w' => ∃ q0_ : Nat, e = .returned (errW q0_ r) ∧ Below w.heap.size w w' := by
  have hu := Try.underlying63
  obtain rfl := Option.some.inj h
  go_enter Try.func24, Try.ntmps24
  go_wp2_with (first | ((with_reducible refine gate_dst (N := 5) rfl ?_); refine box_event ?hg (N := 5) ?hd (cs := #[.string a0]) (t := 63) ?hr ?_; (case hd => rfl); (case hg => rfl); (case hr => first | (go_simp; done) | (go_simp; rfl)); intro gb hg w4 hbox hb))
  go_ret
  exact ⟨_, rfl, below_step (Below.refl _ _) hb⟩

/-! ### bits_Len64: function 32 (given) -/
def bits_Len64.f (a0 : Int) : Option (Int) := if 0 ≤ a0 then (if a0 ≤ 18446744073709551615 then (some ((Lib.bitLen a0.toNat : Nat) : Int)) else (none)) else (none)
theorem bits_Len64.w8 (c b : Nat) (h : b ≤ 8) (hc : c ≤ 56) : wrap64 ((c : Int) + wrap64 (b : Int)) = ((c + b : Nat) : Int) := by
  unfold wrap64
  omega
theorem bits_Len64.w0 (b : Nat) (h : b ≤ 8) : wrap64 (wrap64 (b : Int)) = (b : Int) := by
  unfold wrap64
  omega
theorem bits_Len64.fin56 (a0 : Int) (h0 : 0 ≤ a0) (h1 : a0 ≤ 18446744073709551615) (hA : 4294967296 ≤ a0) (hB : 65536 ≤ a0 / 4294967296) (hC : 256 ≤ a0 / 4294967296 / 65536) : 0 ≤ a0 / 4294967296 / 65536 / 256 ∧ a0 / 4294967296 / 65536 / 256 ≤ 255 ∧ wrap64 (56 + wrap64 (Lib.len8 (a0 / 4294967296 / 65536 / 256))) = ((Lib.bitLen a0.toNat : Nat) : Int) := by
  have p : 0 ≤ a0 / 4294967296 / 65536 / 256 := by omega
  have q : a0 / 4294967296 / 65536 / 256 ≤ 255 := by omega
  refine ⟨p, q, ?_⟩
  rw [Lib.len8_of (a0 / 4294967296 / 65536 / 256) p q]
  have e : (a0 / 4294967296 / 65536 / 256).toNat = a0.toNat / 72057594037927936 := by omega
  have l := Lib.bitLen_le8' (a0 / 4294967296 / 65536 / 256) p q
  have s := Lib.bitLen_shift56 a0.toNat (by omega) (by omega)
  rw [e] at l ⊢
  rw [s]
  exact bits_Len64.w8 56 _ l (by decide)
theorem bits_Len64.fin48 (a0 : Int) (h0 : 0 ≤ a0) (h1 : a0 ≤ 18446744073709551615) (hA : 4294967296 ≤ a0) (hB : 65536 ≤ a0 / 4294967296) (hC : 256 > a0 / 4294967296 / 65536) : 0 ≤ a0 / 4294967296 / 65536 ∧ a0 / 4294967296 / 65536 ≤ 255 ∧ wrap64 (48 + wrap64 (Lib.len8 (a0 / 4294967296 / 65536))) = ((Lib.bitLen a0.toNat : Nat) : Int) := by
  have p : 0 ≤ a0 / 4294967296 / 65536 := by omega
  have q : a0 / 4294967296 / 65536 ≤ 255 := by omega
  refine ⟨p, q, ?_⟩
  rw [Lib.len8_of (a0 / 4294967296 / 65536) p q]
  have e : (a0 / 4294967296 / 65536).toNat = a0.toNat / 281474976710656 := by omega
  have l := Lib.bitLen_le8' (a0 / 4294967296 / 65536) p q
  have s := Lib.bitLen_shift48 a0.toNat (by omega) (by omega)
  rw [e] at l ⊢
  rw [s]
  exact bits_Len64.w8 48 _ l (by decide)
theorem bits_Len64.fin40 (a0 : Int) (h0 : 0 ≤ a0) (h1 : a0 ≤ 18446744073709551615) (hA : 4294967296 ≤ a0) (hB : 65536 > a0 / 4294967296) (hC : 256 ≤ a0 / 4294967296) : 0 ≤ a0 / 4294967296 / 256 ∧ a0 / 4294967296 / 256 ≤ 255 ∧ wrap64 (40 + wrap64 (Lib.len8 (a0 / 4294967296 / 256))) = ((Lib.bitLen a0.toNat : Nat) : Int) := by
  have p : 0 ≤ a0 / 4294967296 / 256 := by omega
  have q : a0 / 4294967296 / 256 ≤ 255 := by omega
  refine ⟨p, q, ?_⟩
  rw [Lib.len8_of (a0 / 4294967296 / 256) p q]
  have e : (a0 / 4294967296 / 256).toNat = a0.toNat / 1099511627776 := by omega
  have l := Lib.bitLen_le8' (a0 / 4294967296 / 256) p q
  have s := Lib.bitLen_shift40 a0.toNat (by omega) (by omega)
  rw [e] at l ⊢
  rw [s]
  exact bits_Len64.w8 40 _ l (by decide)
theorem bits_Len64.fin32 (a0 : Int) (h0 : 0 ≤ a0) (h1 : a0 ≤ 18446744073709551615) (hA : 4294967296 ≤ a0) (hB : 65536 > a0 / 4294967296) (hC : 256 > a0 / 4294967296) : 0 ≤ a0 / 4294967296 ∧ a0 / 4294967296 ≤ 255 ∧ wrap64 (32 + wrap64 (Lib.len8 (a0 / 4294967296))) = ((Lib.bitLen a0.toNat : Nat) : Int) := by
  have p : 0 ≤ a0 / 4294967296 := by omega
  have q : a0 / 4294967296 ≤ 255 := by omega
  refine ⟨p, q, ?_⟩
  rw [Lib.len8_of (a0 / 4294967296) p q]
  have e : (a0 / 4294967296).toNat = a0.toNat / 4294967296 := by omega
  have l := Lib.bitLen_le8' (a0 / 4294967296) p q
  have s := Lib.bitLen_shift32 a0.toNat (by omega) (by omega)
  rw [e] at l ⊢
  rw [s]
  exact bits_Len64.w8 32 _ l (by decide)
theorem bits_Len64.fin24 (a0 : Int) (h0 : 0 ≤ a0) (h1 : a0 ≤ 18446744073709551615) (hA : 4294967296 > a0) (hB : 65536 ≤ a0) (hC : 256 ≤ a0 / 65536) : 0 ≤ a0 / 65536 / 256 ∧ a0 / 65536 / 256 ≤ 255 ∧ wrap64 (24 + wrap64 (Lib.len8 (a0 / 65536 / 256))) = ((Lib.bitLen a0.toNat : Nat) : Int) := by
  have p : 0 ≤ a0 / 65536 / 256 := by omega
  have q : a0 / 65536 / 256 ≤ 255 := by omega
  refine ⟨p, q, ?_⟩
  rw [Lib.len8_of (a0 / 65536 / 256) p q]
  have e : (a0 / 65536 / 256).toNat = a0.toNat / 16777216 := by omega
  have l := Lib.bitLen_le8' (a0 / 65536 / 256) p q
  have s := Lib.bitLen_shift24 a0.toNat (by omega) (by omega)
  rw [e] at l ⊢
  rw [s]
  exact bits_Len64.w8 24 _ l (by decide)
theorem bits_Len64.fin16 (a0 : Int) (h0 : 0 ≤ a0) (h1 : a0 ≤ 18446744073709551615) (hA : 4294967296 > a0) (hB : 65536 ≤ a0) (hC : 256 > a0 / 65536) : 0 ≤ a0 / 65536 ∧ a0 / 65536 ≤ 255 ∧ wrap64 (16 + wrap64 (Lib.len8 (a0 / 65536))) = ((Lib.bitLen a0.toNat : Nat) : Int) := by
  have p : 0 ≤ a0 / 65536 := by omega
  have q : a0 / 65536 ≤ 255 := by omega
  refine ⟨p, q, ?_⟩
  rw [Lib.len8_of (a0 / 65536) p q]
  have e : (a0 / 65536).toNat = a0.toNat / 65536 := by omega
  have l := Lib.bitLen_le8' (a0 / 65536) p q
  have s := Lib.bitLen_shift16 a0.toNat (by omega) (by omega)
  rw [e] at l ⊢
  rw [s]
  exact bits_Len64.w8 16 _ l (by decide)
theorem bits_Len64.fin8 (a0 : Int) (h0 : 0 ≤ a0) (h1 : a0 ≤ 18446744073709551615) (hA : 4294967296 > a0) (hB : 65536 > a0) (hC : 256 ≤ a0) : 0 ≤ a0 / 256 ∧ a0 / 256 ≤ 255 ∧ wrap64 (8 + wrap64 (Lib.len8 (a0 / 256))) = ((Lib.bitLen a0.toNat : Nat) : Int) := by
  have p : 0 ≤ a0 / 256 := by omega
  have q : a0 / 256 ≤ 255 := by omega
  refine ⟨p, q, ?_⟩
  rw [Lib.len8_of (a0 / 256) p q]
  have e : (a0 / 256).toNat = a0.toNat / 256 := by omega
  have l := Lib.bitLen_le8' (a0 / 256) p q
  have s := Lib.bitLen_shift8 a0.toNat (by omega) (by omega)
  rw [e] at l ⊢
  rw [s]
  exact bits_Len64.w8 8 _ l (by decide)
theorem bits_Len64.fin0 (a0 : Int) (h0 : 0 ≤ a0) (h1 : a0 ≤ 18446744073709551615) (hA : 4294967296 > a0) (hB : 65536 > a0) (hC : 256 > a0) : 0 ≤ a0 ∧ a0 ≤ 255 ∧ wrap64 (wrap64 (Lib.len8 (a0))) = ((Lib.bitLen a0.toNat : Nat) : Int) := by
  have p : 0 ≤ a0 := by omega
  have q : a0 ≤ 255 := by omega
  refine ⟨p, q, ?_⟩
  rw [Lib.len8_of (a0) p q]
  have e : (a0).toNat = a0.toNat := by omega
  have l := Lib.bitLen_le8' (a0) p q
  rw [e] at l ⊢
  exact bits_Len64.w0 _ l
set_option maxHeartbeats 8000000 in
set_option maxRecDepth 100000 in
theorem bits_Len64.calls (a0 : Int) (r : Int) (w : World) (h : bits_Len64.f a0 = some r) :
    Calls Try.prog 32 #[.int .u64 a0] w fun e w' => e = .returned (.int .i64 r) ∧ Drawn0 w w' := by
  have hh : (0 ≤ a0 ∧ a0 ≤ 18446744073709551615) ∧ r = ((Lib.bitLen a0.toNat : Nat) : Int) := by
    unfold bits_Len64.f at h
    by_cases h0 : 0 ≤ a0
    · rw [if_pos h0] at h
      by_cases h1 : a0 ≤ 18446744073709551615
      · rw [if_pos h1] at h
        exact ⟨⟨h0, h1⟩, (Option.some.inj h).symm⟩
      · rw [if_neg h1] at h
        exact absurd h (by simp)
    · rw [if_neg h0] at h
      exact absurd h (by simp)
  clear h
  obtain ⟨⟨h0, h1⟩, hr⟩ := hh
  subst hr
  by_cases hA : 4294967296 ≤ a0
  · by_cases hB : 65536 ≤ a0 / 4294967296
    · by_cases hC : 256 ≤ a0 / 4294967296 / 65536
      · obtain ⟨p, q, fin⟩ := bits_Len64.fin56 a0 h0 h1 hA hB hC
        have cA : decide (4294967296 ≤ a0) = true := decide_eq_true hA
        have cB : decide (65536 ≤ a0 / 4294967296) = true := decide_eq_true hB
        have cC : decide (256 ≤ a0 / 4294967296 / 65536) = true := decide_eq_true hC
        have FIN := Aside0.mk fin
        clear fin h0 h1 hA hB hC
        go_enter Try.func32, Try.ntmps32
        go_wp2
        go_ret
        exact ⟨congrArg Ending.returned (congrArg (Value.int IntKind.i64) FIN.out), Drawn0.refl _⟩
      · obtain ⟨p, q, fin⟩ := bits_Len64.fin48 a0 h0 h1 hA hB (Int.not_le.mp hC)
        have cA : decide (4294967296 ≤ a0) = true := decide_eq_true hA
        have cB : decide (65536 ≤ a0 / 4294967296) = true := decide_eq_true hB
        have cC : decide (256 ≤ a0 / 4294967296 / 65536) = false := decide_eq_false hC
        have FIN := Aside0.mk fin
        clear fin h0 h1 hA hB hC
        go_enter Try.func32, Try.ntmps32
        go_wp2
        go_ret
        exact ⟨congrArg Ending.returned (congrArg (Value.int IntKind.i64) FIN.out), Drawn0.refl _⟩
    · by_cases hC : 256 ≤ a0 / 4294967296
      · obtain ⟨p, q, fin⟩ := bits_Len64.fin40 a0 h0 h1 hA (Int.not_le.mp hB) hC
        have cA : decide (4294967296 ≤ a0) = true := decide_eq_true hA
        have cB : decide (65536 ≤ a0 / 4294967296) = false := decide_eq_false hB
        have cC : decide (256 ≤ a0 / 4294967296) = true := decide_eq_true hC
        have FIN := Aside0.mk fin
        clear fin h0 h1 hA hB hC
        go_enter Try.func32, Try.ntmps32
        go_wp2
        go_ret
        exact ⟨congrArg Ending.returned (congrArg (Value.int IntKind.i64) FIN.out), Drawn0.refl _⟩
      · obtain ⟨p, q, fin⟩ := bits_Len64.fin32 a0 h0 h1 hA (Int.not_le.mp hB) (Int.not_le.mp hC)
        have cA : decide (4294967296 ≤ a0) = true := decide_eq_true hA
        have cB : decide (65536 ≤ a0 / 4294967296) = false := decide_eq_false hB
        have cC : decide (256 ≤ a0 / 4294967296) = false := decide_eq_false hC
        have FIN := Aside0.mk fin
        clear fin h0 h1 hA hB hC
        go_enter Try.func32, Try.ntmps32
        go_wp2
        go_ret
        exact ⟨congrArg Ending.returned (congrArg (Value.int IntKind.i64) FIN.out), Drawn0.refl _⟩
  · by_cases hB : 65536 ≤ a0
    · by_cases hC : 256 ≤ a0 / 65536
      · obtain ⟨p, q, fin⟩ := bits_Len64.fin24 a0 h0 h1 (Int.not_le.mp hA) hB hC
        have cA : decide (4294967296 ≤ a0) = false := decide_eq_false hA
        have cB : decide (65536 ≤ a0) = true := decide_eq_true hB
        have cC : decide (256 ≤ a0 / 65536) = true := decide_eq_true hC
        have FIN := Aside0.mk fin
        clear fin h0 h1 hA hB hC
        go_enter Try.func32, Try.ntmps32
        go_wp2
        go_ret
        exact ⟨congrArg Ending.returned (congrArg (Value.int IntKind.i64) FIN.out), Drawn0.refl _⟩
      · obtain ⟨p, q, fin⟩ := bits_Len64.fin16 a0 h0 h1 (Int.not_le.mp hA) hB (Int.not_le.mp hC)
        have cA : decide (4294967296 ≤ a0) = false := decide_eq_false hA
        have cB : decide (65536 ≤ a0) = true := decide_eq_true hB
        have cC : decide (256 ≤ a0 / 65536) = false := decide_eq_false hC
        have FIN := Aside0.mk fin
        clear fin h0 h1 hA hB hC
        go_enter Try.func32, Try.ntmps32
        go_wp2
        go_ret
        exact ⟨congrArg Ending.returned (congrArg (Value.int IntKind.i64) FIN.out), Drawn0.refl _⟩
    · by_cases hC : 256 ≤ a0
      · obtain ⟨p, q, fin⟩ := bits_Len64.fin8 a0 h0 h1 (Int.not_le.mp hA) (Int.not_le.mp hB) hC
        have cA : decide (4294967296 ≤ a0) = false := decide_eq_false hA
        have cB : decide (65536 ≤ a0) = false := decide_eq_false hB
        have cC : decide (256 ≤ a0) = true := decide_eq_true hC
        have FIN := Aside0.mk fin
        clear fin h0 h1 hA hB hC
        go_enter Try.func32, Try.ntmps32
        go_wp2
        go_ret
        exact ⟨congrArg Ending.returned (congrArg (Value.int IntKind.i64) FIN.out), Drawn0.refl _⟩
      · obtain ⟨p, q, fin⟩ := bits_Len64.fin0 a0 h0 h1 (Int.not_le.mp hA) (Int.not_le.mp hB) (Int.not_le.mp hC)
        have cA : decide (4294967296 ≤ a0) = false := decide_eq_false hA
        have cB : decide (65536 ≤ a0) = false := decide_eq_false hB
        have cC : decide (256 ≤ a0) = false := decide_eq_false hC
        have FIN := Aside0.mk fin
        clear fin h0 h1 hA hB hC
        go_enter Try.func32, Try.ntmps32
        go_wp2
        go_ret
        exact ⟨congrArg Ending.returned (congrArg (Value.int IntKind.i64) FIN.out), Drawn0.refl _⟩

/-! ### proof_innerProofSize: function 28 -/
def proof_innerProofSize.f (a0 : Int) (a1 : Int) : Option (Int) := (bits_Len64.f (Go.bits .xor .u64 a0 (IntKind.u64.wrap (a1 - 1)))).bind fun t261 => (some t261)
set_option maxHeartbeats 8000000 in
set_option maxRecDepth 100000 in
theorem proof_innerProofSize.calls (a0 : Int) (a1 : Int) (r : Int) (w : World) (h : proof_innerProofSize.f a0 a1 = some r) :
    Calls Try.prog 28 #[.int .u64 a0, .int .u64 a1] w fun e w' => e = .returned (.int .i64 r) ∧ Drawn0 w w' := by
  have H : ((bits_Len64.f (Go.bits .xor .u64 a0 (IntKind.u64.wrap (a1 - 1)))).bind fun t261 => (some t261)) = some r := h
  clear h
  replace H := Option.bind_eq_some_iff.mp H
  obtain ⟨t261, A30, H⟩ := H
  replace H : (some t261) = some r := H
  have A3 := Aside0.mk A30
  clear A30
  obtain rfl := Option.some.inj H
  go_enter Try.func28, Try.ntmps28
  go_wp2_with (first | ((with_reducible refine gate_callee (f := 32) rfl ?_); refine goesL_ (some 9) rfl rfl Try.func32 (by kernel_rfl) rfl #[.int .u64 (Go.bits .xor .u64 a0 (IntKind.u64.wrap (a1 - 1)))] rfl (by (try simp only [List.map_toArray, List.map_cons, List.map_nil]); first | done | rfl | (simp only [List.length_drop, List.length_take]; rfl)) ?_; (with_reducible refine (bits_Len64.calls (Go.bits .xor .u64 a0 (IntKind.u64.wrap (a1 - 1))) t261 _ A3.out).mono ?_); rintro e w' ⟨rfl, ⟨nd, rfl⟩⟩; refine ⟨_, rfl, ?_⟩))
  go_ret
  exact ⟨by first | rfl | (simp; done) | (simp [*]; done), by repeat (first | exact Drawn0.refl _ | apply Drawn0.step)⟩

/-! ### bits_OnesCount64: function 29 -/
def bits_OnesCount64.f (a0 : Int) : Option (Int) := some (Go.bits .and .i64 (wrap64 (IntKind.u64.wrap ((IntKind.u64.wrap ((IntKind.u64.wrap ((Go.bits .and .u64 (IntKind.u64.wrap (((IntKind.u64.wrap ((Go.bits .and .u64 ((IntKind.u64.wrap ((Go.bits .and .u64 (a0 / 2) 6148914691236517205) + (Go.bits .and .u64 a0 6148914691236517205))) / 4) 3689348814741910323) + (Go.bits .and .u64 (IntKind.u64.wrap ((Go.bits .and .u64 (a0 / 2) 6148914691236517205) + (Go.bits .and .u64 a0 6148914691236517205))) 3689348814741910323))) / 16) + (IntKind.u64.wrap ((Go.bits .and .u64 ((IntKind.u64.wrap ((Go.bits .and .u64 (a0 / 2) 6148914691236517205) + (Go.bits .and .u64 a0 6148914691236517205))) / 4) 3689348814741910323) + (Go.bits .and .u64 (IntKind.u64.wrap ((Go.bits .and .u64 (a0 / 2) 6148914691236517205) + (Go.bits .and .u64 a0 6148914691236517205))) 3689348814741910323))))) 1085102592571150095) + ((Go.bits .and .u64 (IntKind.u64.wrap (((IntKind.u64.wrap ((Go.bits .and .u64 ((IntKind.u64.wrap ((Go.bits .and .u64 (a0 / 2) 6148914691236517205) + (Go.bits .and .u64 a0 6148914691236517205))) / 4) 3689348814741910323) + (Go.bits .and .u64 (IntKind.u64.wrap ((Go.bits .and .u64 (a0 / 2) 6148914691236517205) + (Go.bits .and .u64 a0 6148914691236517205))) 3689348814741910323))) / 16) + (IntKind.u64.wrap ((Go.bits .and .u64 ((IntKind.u64.wrap ((Go.bits .and .u64 (a0 / 2) 6148914691236517205) + (Go.bits .and .u64 a0 6148914691236517205))) / 4) 3689348814741910323) + (Go.bits .and .u64 (IntKind.u64.wrap ((Go.bits .and .u64 (a0 / 2) 6148914691236517205) + (Go.bits .and .u64 a0 6148914691236517205))) 3689348814741910323))))) 1085102592571150095) / 256))) + ((IntKind.u64.wrap ((Go.bits .and .u64 (IntKind.u64.wrap (((IntKind.u64.wrap ((Go.bits .and .u64 ((IntKind.u64.wrap ((Go.bits .and .u64 (a0 / 2) 6148914691236517205) + (Go.bits .and .u64 a0 6148914691236517205))) / 4) 3689348814741910323) + (Go.bits .and .u64 (IntKind.u64.wrap ((Go.bits .and .u64 (a0 / 2) 6148914691236517205) + (Go.bits .and .u64 a0 6148914691236517205))) 3689348814741910323))) / 16) + (IntKind.u64.wrap ((Go.bits .and .u64 ((IntKind.u64.wrap ((Go.bits .and .u64 (a0 / 2) 6148914691236517205) + (Go.bits .and .u64 a0 6148914691236517205))) / 4) 3689348814741910323) + (Go.bits .and .u64 (IntKind.u64.wrap ((Go.bits .and .u64 (a0 / 2) 6148914691236517205) + (Go.bits .and .u64 a0 6148914691236517205))) 3689348814741910323))))) 1085102592571150095) + ((Go.bits .and .u64 (IntKind.u64.wrap (((IntKind.u64.wrap ((Go.bits .and .u64 ((IntKind.u64.wrap ((Go.bits .and .u64 (a0 / 2) 6148914691236517205) + (Go.bits .and .u64 a0 6148914691236517205))) / 4) 3689348814741910323) + (Go.bits .and .u64 (IntKind.u64.wrap ((Go.bits .and .u64 (a0 / 2) 6148914691236517205) + (Go.bits .and .u64 a0 6148914691236517205))) 3689348814741910323))) / 16) + (IntKind.u64.wrap ((Go.bits .and .u64 ((IntKind.u64.wrap ((Go.bits .and .u64 (a0 / 2) 6148914691236517205) + (Go.bits .and .u64 a0 6148914691236517205))) / 4) 3689348814741910323) + (Go.bits .and .u64 (IntKind.u64.wrap ((Go.bits .and .u64 (a0 / 2) 6148914691236517205) + (Go.bits .and .u64 a0 6148914691236517205))) 3689348814741910323))))) 1085102592571150095) / 256))) / 65536))) + ((IntKind.u64.wrap ((IntKind.u64.wrap ((Go.bits .and .u64 (IntKind.u64.wrap (((IntKind.u64.wrap ((Go.bits .and .u64 ((IntKind.u64.wrap ((Go.bits .and .u64 (a0 / 2) 6148914691236517205) + (Go.bits .and .u64 a0 6148914691236517205))) / 4) 3689348814741910323) + (Go.bits .and .u64 (IntKind.u64.wrap ((Go.bits .and .u64 (a0 / 2) 6148914691236517205) + (Go.bits .and .u64 a0 6148914691236517205))) 3689348814741910323))) / 16) + (IntKind.u64.wrap ((Go.bits .and .u64 ((IntKind.u64.wrap ((Go.bits .and .u64 (a0 / 2) 6148914691236517205) + (Go.bits .and .u64 a0 6148914691236517205))) / 4) 3689348814741910323) + (Go.bits .and .u64 (IntKind.u64.wrap ((Go.bits .and .u64 (a0 / 2) 6148914691236517205) + (Go.bits .and .u64 a0 6148914691236517205))) 3689348814741910323))))) 1085102592571150095) + ((Go.bits .and .u64 (IntKind.u64.wrap (((IntKind.u64.wrap ((Go.bits .and .u64 ((IntKind.u64.wrap ((Go.bits .and .u64 (a0 / 2) 6148914691236517205) + (Go.bits .and .u64 a0 6148914691236517205))) / 4) 3689348814741910323) + (Go.bits .and .u64 (IntKind.u64.wrap ((Go.bits .and .u64 (a0 / 2) 6148914691236517205) + (Go.bits .and .u64 a0 6148914691236517205))) 3689348814741910323))) / 16) + (IntKind.u64.wrap ((Go.bits .and .u64 ((IntKind.u64.wrap ((Go.bits .and .u64 (a0 / 2) 6148914691236517205) + (Go.bits .and .u64 a0 6148914691236517205))) / 4) 3689348814741910323) + (Go.bits .and .u64 (IntKind.u64.wrap ((Go.bits .and .u64 (a0 / 2) 6148914691236517205) + (Go.bits .and .u64 a0 6148914691236517205))) 3689348814741910323))))) 1085102592571150095) / 256))) + ((IntKind.u64.wrap ((Go.bits .and .u64 (IntKind.u64.wrap (((IntKind.u64.wrap ((Go.bits .and .u64 ((IntKind.u64.wrap ((Go.bits .and .u64 (a0 / 2) 6148914691236517205) + (Go.bits .and .u64 a0 6148914691236517205))) / 4) 3689348814741910323) + (Go.bits .and .u64 (IntKind.u64.wrap ((Go.bits .and .u64 (a0 / 2) 6148914691236517205) + (Go.bits .and .u64 a0 6148914691236517205))) 3689348814741910323))) / 16) + (IntKind.u64.wrap ((Go.bits .and .u64 ((IntKind.u64.wrap ((Go.bits .and .u64 (a0 / 2) 6148914691236517205) + (Go.bits .and .u64 a0 6148914691236517205))) / 4) 3689348814741910323) + (Go.bits .and .u64 (IntKind.u64.wrap ((Go.bits .and .u64 (a0 / 2) 6148914691236517205) + (Go.bits .and .u64 a0 6148914691236517205))) 3689348814741910323))))) 1085102592571150095) + ((Go.bits .and .u64 (IntKind.u64.wrap (((IntKind.u64.wrap ((Go.bits .and .u64 ((IntKind.u64.wrap ((Go.bits .and .u64 (a0 / 2) 6148914691236517205) + (Go.bits .and .u64 a0 6148914691236517205))) / 4) 3689348814741910323) + (Go.bits .and .u64 (IntKind.u64.wrap ((Go.bits .and .u64 (a0 / 2) 6148914691236517205) + (Go.bits .and .u64 a0 6148914691236517205))) 3689348814741910323))) / 16) + (IntKind.u64.wrap ((Go.bits .and .u64 ((IntKind.u64.wrap ((Go.bits .and .u64 (a0 / 2) 6148914691236517205) + (Go.bits .and .u64 a0 6148914691236517205))) / 4) 3689348814741910323) + (Go.bits .and .u64 (IntKind.u64.wrap ((Go.bits .and .u64 (a0 / 2) 6148914691236517205) + (Go.bits .and .u64 a0 6148914691236517205))) 3689348814741910323))))) 1085102592571150095) / 256))) / 65536))) / 4294967296)))) 127)
set_option maxHeartbeats 8000000 in
set_option maxRecDepth 100000 in
theorem bits_OnesCount64.calls (a0 : Int) (r : Int) (w : World) (h : bits_OnesCount64.f a0 = some r) :
    Calls Try.prog 29 #[.int .u64 a0] w fun e w' => e = .returned (.int .i64 r) ∧ Drawn0 w w' := by
  have H : (some (Go.bits .and .i64 (wrap64 (IntKind.u64.wrap ((IntKind.u64.wrap ((IntKind.u64.wrap ((Go.bits .and .u64 (IntKind.u64.wrap (((IntKind.u64.wrap ((Go.bits .and .u64 ((IntKind.u64.wrap ((Go.bits .and .u64 (a0 / 2) 6148914691236517205) + (Go.bits .and .u64 a0 6148914691236517205))) / 4) 3689348814741910323) + (Go.bits .and .u64 (IntKind.u64.wrap ((Go.bits .and .u64 (a0 / 2) 6148914691236517205) + (Go.bits .and .u64 a0 6148914691236517205))) 3689348814741910323))) / 16) + (IntKind.u64.wrap ((Go.bits .and .u64 ((IntKind.u64.wrap ((Go.bits .and .u64 (a0 / 2) 6148914691236517205) + (Go.bits .and .u64 a0 6148914691236517205))) / 4) 3689348814741910323) + (Go.bits .and .u64 (IntKind.u64.wrap ((Go.bits .and .u64 (a0 / 2) 6148914691236517205) + (Go.bits .and .u64 a0 6148914691236517205))) 3689348814741910323))))) 1085102592571150095) + ((Go.bits .and .u64 (IntKind.u64.wrap (((IntKind.u64.wrap ((Go.bits .and .u64 ((IntKind.u64.wrap ((Go.bits .and .u64 (a0 / 2) 6148914691236517205) + (Go.bits .and .u64 a0 6148914691236517205))) / 4) 3689348814741910323) + (Go.bits .and .u64 (IntKind.u64.wrap ((Go.bits .and .u64 (a0 / 2) 6148914691236517205) + (Go.bits .and .u64 a0 6148914691236517205))) 3689348814741910323))) / 16) + (IntKind.u64.wrap ((Go.bits .and .u64 ((IntKind.u64.wrap ((Go.bits .and .u64 (a0 / 2) 6148914691236517205) + (Go.bits .and .u64 a0 6148914691236517205))) / 4) 3689348814741910323) + (Go.bits .and .u64 (IntKind.u64.wrap ((Go.bits .and .u64 (a0 / 2) 6148914691236517205) + (Go.bits .and .u64 a0 6148914691236517205))) 3689348814741910323))))) 1085102592571150095) / 256))) + ((IntKind.u64.wrap ((Go.bits .and .u64 (IntKind.u64.wrap (((IntKind.u64.wrap ((Go.bits .and .u64 ((IntKind.u64.wrap ((Go.bits .and .u64 (a0 / 2) 6148914691236517205) + (Go.bits .and .u64 a0 6148914691236517205))) / 4) 3689348814741910323) + (Go.bits .and .u64 (IntKind.u64.wrap ((Go.bits .and .u64 (a0 / 2) 6148914691236517205) + (Go.bits .and .u64 a0 6148914691236517205))) 3689348814741910323))) / 16) + (IntKind.u64.wrap ((Go.bits .and .u64 ((IntKind.u64.wrap ((Go.bits .and .u64 (a0 / 2) 6148914691236517205) + (Go.bits .and .u64 a0 6148914691236517205))) / 4) 3689348814741910323) + (Go.bits .and .u64 (IntKind.u64.wrap ((Go.bits .and .u64 (a0 / 2) 6148914691236517205) + (Go.bits .and .u64 a0 6148914691236517205))) 3689348814741910323))))) 1085102592571150095) + ((Go.bits .and .u64 (IntKind.u64.wrap (((IntKind.u64.wrap ((Go.bits .and .u64 ((IntKind.u64.wrap ((Go.bits .and .u64 (a0 / 2) 6148914691236517205) + (Go.bits .and .u64 a0 6148914691236517205))) / 4) 3689348814741910323) + (Go.bits .and .u64 (IntKind.u64.wrap ((Go.bits .and .u64 (a0 / 2) 6148914691236517205) + (Go.bits .and .u64 a0 6148914691236517205))) 3689348814741910323))) / 16) + (IntKind.u64.wrap ((Go.bits .and .u64 ((IntKind.u64.wrap ((Go.bits .and .u64 (a0 / 2) 6148914691236517205) + (Go.bits .and .u64 a0 6148914691236517205))) / 4) 3689348814741910323) + (Go.bits .and .u64 (IntKind.u64.wrap ((Go.bits .and .u64 (a0 / 2) 6148914691236517205) + (Go.bits .and .u64 a0 6148914691236517205))) 3689348814741910323))))) 1085102592571150095) / 256))) / 65536))) + ((IntKind.u64.wrap ((IntKind.u64.wrap ((Go.bits .and .u64 (IntKind.u64.wrap (((IntKind.u64.wrap ((Go.bits .and .u64 ((IntKind.u64.wrap ((Go.bits .and .u64 (a0 / 2) 6148914691236517205) + (Go.bits .and .u64 a0 6148914691236517205))) / 4) 3689348814741910323) + (Go.bits .and .u64 (IntKind.u64.wrap ((Go.bits .and .u64 (a0 / 2) 6148914691236517205) + (Go.bits .and .u64 a0 6148914691236517205))) 3689348814741910323))) / 16) + (IntKind.u64.wrap ((Go.bits .and .u64 ((IntKind.u64.wrap ((Go.bits .and .u64 (a0 / 2) 6148914691236517205) + (Go.bits .and .u64 a0 6148914691236517205))) / 4) 3689348814741910323) + (Go.bits .and .u64 (IntKind.u64.wrap ((Go.bits .and .u64 (a0 / 2) 6148914691236517205) + (Go.bits .and .u64 a0 6148914691236517205))) 3689348814741910323))))) 1085102592571150095) + ((Go.bits .and .u64 (IntKind.u64.wrap (((IntKind.u64.wrap ((Go.bits .and .u64 ((IntKind.u64.wrap ((Go.bits .and .u64 (a0 / 2) 6148914691236517205) + (Go.bits .and .u64 a0 6148914691236517205))) / 4) 3689348814741910323) + (Go.bits .and .u64 (IntKind.u64.wrap ((Go.bits .and .u64 (a0 / 2) 6148914691236517205) + (Go.bits .and .u64 a0 6148914691236517205))) 3689348814741910323))) / 16) + (IntKind.u64.wrap ((Go.bits .and .u64 ((IntKind.u64.wrap ((Go.bits .and .u64 (a0 / 2) 6148914691236517205) + (Go.bits .and .u64 a0 6148914691236517205))) / 4) 3689348814741910323) + (Go.bits .and .u64 (IntKind.u64.wrap ((Go.bits .and .u64 (a0 / 2) 6148914691236517205) + (Go.bits .and .u64 a0 6148914691236517205))) 3689348814741910323))))) 1085102592571150095) / 256))) + ((IntKind.u64.wrap ((Go.bits .and .u64 (IntKind.u64.wrap (((IntKind.u64.wrap ((Go.bits .and .u64 ((IntKind.u64.wrap ((Go.bits .and .u64 (a0 / 2) 6148914691236517205) + (Go.bits .and .u64 a0 6148914691236517205))) / 4) 3689348814741910323) + (Go.bits .and .u64 (IntKind.u64.wrap ((Go.bits .and .u64 (a0 / 2) 6148914691236517205) + (Go.bits .and .u64 a0 6148914691236517205))) 3689348814741910323))) / 16) + (IntKind.u64.wrap ((Go.bits .and .u64 ((IntKind.u64.wrap ((Go.bits .and .u64 (a0 / 2) 6148914691236517205) + (Go.bits .and .u64 a0 6148914691236517205))) / 4) 3689348814741910323) + (Go.bits .and .u64 (IntKind.u64.wrap ((Go.bits .and .u64 (a0 / 2) 6148914691236517205) + (Go.bits .and .u64 a0 6148914691236517205))) 3689348814741910323))))) 1085102592571150095) + ((Go.bits .and .u64 (IntKind.u64.wrap (((IntKind.u64.wrap ((Go.bits .and .u64 ((IntKind.u64.wrap ((Go.bits .and .u64 (a0 / 2) 6148914691236517205) + (Go.bits .and .u64 a0 6148914691236517205))) / 4) 3689348814741910323) + (Go.bits .and .u64 (IntKind.u64.wrap ((Go.bits .and .u64 (a0 / 2) 6148914691236517205) + (Go.bits .and .u64 a0 6148914691236517205))) 3689348814741910323))) / 16) + (IntKind.u64.wrap ((Go.bits .and .u64 ((IntKind.u64.wrap ((Go.bits .and .u64 (a0 / 2) 6148914691236517205) + (Go.bits .and .u64 a0 6148914691236517205))) / 4) 3689348814741910323) + (Go.bits .and .u64 (IntKind.u64.wrap ((Go.bits .and .u64 (a0 / 2) 6148914691236517205) + (Go.bits .and .u64 a0 6148914691236517205))) 3689348814741910323))))) 1085102592571150095) / 256))) / 65536))) / 4294967296)))) 127)) = some r := h
  clear h
  obtain rfl := Option.some.inj H
  go_enter Try.func29, Try.ntmps29
  go_wp2
  go_ret
  exact ⟨by first | rfl | (simp; done) | (simp [*]; done), by repeat (first | exact Drawn0.refl _ | apply Drawn0.step)⟩

/-! ### proof_decompInclProof: function 25 -/
def proof_decompInclProof.f (a0 : Int) (a1 : Int) : Option (Int × Int) := (proof_innerProofSize.f a0 a1).bind fun t262 => (if 0 ≤ (IntKind.u64.wrap (t262)) then ((bits_OnesCount64.f (shr .u64 a0 (IntKind.u64.wrap (t262)))).bind fun t263 => (some (t262, t263))) else (none))
set_option maxHeartbeats 8000000 in
set_option maxRecDepth 100000 in
theorem proof_decompInclProof.calls (a0 : Int) (a1 : Int) (r1 : Int) (r2 : Int) (w : World) (h : proof_decompInclProof.f a0 a1 = some (r1, r2)) :
    Calls Try.prog 25 #[.int .u64 a0, .int .u64 a1] w fun e w' => e = .returned (.tuple #[.int .i64 r1, .int .i64 r2]) ∧ Drawn0 w w' := by
  have H : ((proof_innerProofSize.f a0 a1).bind fun t262 => (if 0 ≤ (IntKind.u64.wrap (t262)) then ((bits_OnesCount64.f (shr .u64 a0 (IntKind.u64.wrap (t262)))).bind fun t263 => (some (t262, t263))) else (none))) = some (r1, r2) := h
  clear h
  replace H := Option.bind_eq_some_iff.mp H
  obtain ⟨t262, A30, H⟩ := H
  replace H : (if 0 ≤ (IntKind.u64.wrap (t262)) then ((bits_OnesCount64.f (shr .u64 a0 (IntKind.u64.wrap (t262)))).bind fun t263 => (some (t262, t263))) else (none)) = some (r1, r2) := H
  have A3 := Aside0.mk A30
  clear A30
  obtain ⟨ji4, hji4⟩ : ∃ j_ : Int, (IntKind.u64.wrap (t262)) = j_ := ⟨_, rfl⟩
  replace H : (if 0 ≤ (ji4) then ((bits_OnesCount64.f (shr .u64 a0 (ji4))).bind fun t263 => (some (t262, t263))) else (none)) = some (r1, r2) := by first | (rw [hji4] at H; exact H) | (simp only [hji4] at H ⊢; exact H)
  (try rw [hji4] at A3)
  by_cases c5 : 0 ≤ (ji4)
  · rw [if_pos c5] at H
    have c5b0 := eq_true c5
    have c5b1 : decide (0 ≤ (ji4)) = true := decide_eq_true c5
    clear c5
    obtain ⟨ji6, hji6⟩ : ∃ j_ : Int, (shr .u64 a0 (ji4)) = j_ := ⟨_, rfl⟩
    replace H : ((bits_OnesCount64.f (ji6)).bind fun t263 => (some (t262, t263))) = some (r1, r2) := by first | (rw [hji6] at H; exact H) | (simp only [hji6] at H ⊢; exact H)
    (try rw [hji6] at A3)
    have hji6_ : (a0 / 2 ^ min (ji4).toNat 64) = ji6 := hji6
    have hji6z : (ji4) ≤ 64 → (a0 / 2 ^ (ji4).toNat) = ji6 := shr_small hji6
    replace H := Option.bind_eq_some_iff.mp H
    obtain ⟨t263, A70, H⟩ := H
    replace H : (some (t262, t263)) = some (r1, r2) := H
    have A7 := Aside0.mk A70
    clear A70
    simp only [Option.some.injEq, Prod.mk.injEq] at H
    obtain ⟨rfl, rfl⟩ := H
    go_enter Try.func25, Try.ntmps25
    go_wp2_with (first | ((with_reducible refine gate_callee (f := 28) rfl ?_); refine goesL_ (some 10) rfl rfl Try.func28 (by kernel_rfl) rfl #[.int .u64 a0, .int .u64 a1] rfl (by (try simp only [List.map_toArray, List.map_cons, List.map_nil]); first | done | rfl | (simp only [List.length_drop, List.length_take]; rfl)) ?_; (with_reducible refine (proof_innerProofSize.calls a0 a1 t262 _ A3.out).mono ?_); rintro e w' ⟨rfl, ⟨nd, rfl⟩⟩; refine ⟨_, rfl, ?_⟩) | ((with_reducible refine gate_callee (f := 29) rfl ?_); refine goesL_ (some 15) rfl rfl Try.func29 (by kernel_rfl) rfl #[.int .u64 ji6] rfl (by (try simp only [List.map_toArray, List.map_cons, List.map_nil]); first | done | (simp only [hji6]; rfl) | rfl | (simp only [List.length_drop, List.length_take]; rfl)) ?_; (with_reducible refine (bits_OnesCount64.calls ji6 t263 _ A7.out).mono ?_); rintro e w' ⟨rfl, ⟨nd, rfl⟩⟩; refine ⟨_, rfl, ?_⟩))
    go_ret2
    exact ⟨by first | rfl | (simp; done) | (simp only [← hji4, ← hji6] <;> (first | rfl | simp)) | (simp [*]; done), by repeat (first | exact Drawn0.refl _ | apply Drawn0.step)⟩
  · rw [if_neg c5] at H
    exact absurd H (by simp)

/-! ### impl_toy_Size: function 50 -/
def impl_toy_Size.f (a0_0 : Int) (a0_1 : Int) (a0_2 : Int) (a0_3 : Int) (a0_4 : Int) (a0_5 : Int) : Option (Int) := some a0_1
set_option maxHeartbeats 8000000 in
set_option maxRecDepth 100000 in
theorem impl_toy_Size.calls (a0_0 : Int) (a0_1 : Int) (a0_2 : Int) (a0_3 : Int) (a0_4 : Int) (a0_5 : Int) (r : Int) (w : World) (h : impl_toy_Size.f a0_0 a0_1 a0_2 a0_3 a0_4 a0_5 = some r) :
    Calls Try.prog 50 #[.agg #[.int .i64 a0_0, .int .i64 a0_1, .int .i64 a0_2, .int .u64 a0_3, .int .u64 a0_4, .int .u64 a0_5]] w fun e w' => e = .returned (.int .i64 r) ∧ Below w.heap.size w w' := by
  have hu40 := Try.underlying40
  have HB := Aside0.mk (Below.refl w.heap.size w)
  have H : (some a0_1) = some r := h
  clear h
  obtain rfl := Option.some.inj H
  go_enter Try.func50, Try.ntmps50
  go_wp2_with (first | ((with_reducible refine gate_dst (N := 1) rfl ?_); refine box_event ?hg (N := 1) ?hd (cs := #[.int .i64 a0_0, .int .i64 a0_1, .int .i64 a0_2, .int .u64 a0_3, .int .u64 a0_4, .int .u64 a0_5]) (t := 40) ?hr ?_; (case hd => rfl); (case hg => rfl); (case hr => first | (go_simp; done) | (go_simp; rfl)); intro gb264 hg w2 hbox hb; have n0_ := Aside0.mk (below_step (by repeat (first | (with_reducible first | exact HB.out | apply below_alloc | apply pw_below_drewN | apply below_drew1) | exact HB.out)) hb); have n1_ := Aside0.mk (hbox); have n2_ := Aside0.mk ((by rw [hg]; exact (below_size (by repeat (first | (with_reducible first | exact HB.out | apply below_alloc | apply pw_below_drewN | apply below_drew1) | exact HB.out))) : w.heap.size ≤ gb264)); have n3_ := Aside0.mk ((by rw [hg]; exact (below_size (by repeat (first | (with_reducible first | exact HB.out | apply below_alloc | apply pw_below_drewN | apply below_drew1) | exact HB.out))) : w.heap.size ≤ gb264)); clear HB; have HB := n0_; have BK264 := n1_; have GW264 := n2_; have GE264 := n3_; clear n0_ n1_ n2_ n3_; clear hb hbox hg; have hcz3_0 : w2.cell? ⟨gb264, 0, none⟩ = some (.int .i64 a0_0) := (blk_cell BK264.out 0).trans rfl; have hcz3_1 : w2.cell? ⟨gb264, 1, none⟩ = some (.int .i64 a0_1) := (blk_cell BK264.out 1).trans rfl; have hcz3_2 : w2.cell? ⟨gb264, 2, none⟩ = some (.int .i64 a0_2) := (blk_cell BK264.out 2).trans rfl; have hcz3_3 : w2.cell? ⟨gb264, 3, none⟩ = some (.int .u64 a0_3) := (blk_cell BK264.out 3).trans rfl; have hcz3_4 : w2.cell? ⟨gb264, 4, none⟩ = some (.int .u64 a0_4) := (blk_cell BK264.out 4).trans rfl; have hcz3_5 : w2.cell? ⟨gb264, 5, none⟩ = some (.int .u64 a0_5) := (blk_cell BK264.out 5).trans rfl; have hfz3_0 := blk_frozen BK264.out 0; have hfz3_1 := blk_frozen BK264.out 1; have hfz3_2 := blk_frozen BK264.out 2; have hfz3_3 := blk_frozen BK264.out 3; have hfz3_4 := blk_frozen BK264.out 4; have hfz3_5 := blk_frozen BK264.out 5))
  go_ret
  exact ⟨by first | rfl | (simp [errW_none, errW_some] <;> rfl) | (simp [*, errW_none, errW_some] <;> rfl), by repeat (first | (with_reducible first | exact HB.out | apply below_alloc | apply pw_below_drewN | apply below_drew1 | refine below_set ?_ GE264.out) | exact HB.out)⟩

/-! ### proof_RootFromInclusionProof: function 18 -/
def proof_RootFromInclusionProof.f (k : Nat) (a0_0 : Int) (a0_1 : Int) (a0_2 : Int) (a0_3 : Int) (a0_4 : Int) (a0_5 : Int) (a1 : Int) (a2 : Int) (l3 : List Int) (l4 : List (List Int)) : Option (List Int × Option Int) := if a1 ≥ a2 then ((errors_New.f (⟨#[105, 110, 100, 101, 120, 32, 105, 115, 32, 98, 101, 121, 111, 110, 100, 32, 115, 105, 122, 101, 32, 62]⟩ : ByteArray)).bind fun t265 => (some (([] : List Int), t265))) else ((impl_toy_Size.f a0_0 a0_1 a0_2 a0_3 a0_4 a0_5).bind fun t267 => (if (l3.length : Int) = t267 then ((proof_decompInclProof.f a1 a2).bind fun bt270 => (if (l4.length : Int) = (wrap64 (bt270.1 + bt270.2)) then (if 0 ≤ bt270.1 then (if bt270.1 ≤ (l4.length : Int) then ((proof_chainInner.f k a0_0 a0_1 a0_2 a0_3 a0_4 a0_5 l3 (l4.take (bt270.1 : Int).toNat) a1).bind fun t276 => ((proof_chainBorderRight.f k a0_0 a0_1 a0_2 a0_3 a0_4 a0_5 t276 (l4.drop (bt270.1 : Int).toNat)).bind fun t283 => (some (t283, none)))) else (none)) else (none)) else ((errors_New.f (⟨#[119, 114, 111, 110, 103, 32, 112, 114, 111, 111, 102, 32, 115, 105, 122, 101, 44, 32, 119, 97, 110, 116]⟩ : ByteArray)).bind fun t286 => (some (([] : List Int), t286))))) else ((errors_New.f (⟨#[108, 101, 97, 102, 72, 97, 115, 104, 32, 104, 97, 115, 32, 117, 110, 101, 120, 112, 101, 99, 116, 101, 100, 32, 115, 105, 122, 101, 44, 32, 119, 97, 110, 116]⟩ : ByteArray)).bind fun t268 => (some (([] : List Int), t268)))))
theorem proof_RootFromInclusionProof.mono : ∀ a0 a1 a2 a3 a4 a5 a6 a7 a8 a9 k, LeO (proof_RootFromInclusionProof.f k a0 a1 a2 a3 a4 a5 a6 a7 a8 a9) (proof_RootFromInclusionProof.f (k + 1) a0 a1 a2 a3 a4 a5 a6 a7 a8 a9) := by
  intro a0 a1 a2 a3 a4 a5 a6 a7 a8 a9 k
  unfold proof_RootFromInclusionProof.f
  repeat' first
      | (with_reducible exact proof_chainBorderRight.mono _ _ _ _ _ _ _ _ _)
      | (with_reducible exact proof_chainInner.mono _ _ _ _ _ _ _ _ _ _)
      | (with_reducible exact LeO.refl _)
      | (with_reducible exact LeO.none _)
      | (with_reducible refine LeO.ite ?_ ?_)
      | (with_reducible refine LeO.bind ?_ (fun _ => ?_))
      | exact proof_chainBorderRight.mono _ _ _ _ _ _ _ _ _
      | exact proof_chainInner.mono _ _ _ _ _ _ _ _ _ _
      | exact LeO.none _
      | refine LeO.ite ?_ ?_
      | refine LeO.bind ?_ (fun _ => ?_)
set_option maxHeartbeats 8000000 in
set_option maxRecDepth 100000 in
theorem proof_RootFromInclusionProof.calls (k : Nat) (a0_0 : Int) (a0_1 : Int) (a0_2 : Int) (a0_3 : Int) (a0_4 : Int) (a0_5 : Int) (a1 : Int) (a2 : Int) (P3_ : Nat → Prop) (A3 : Option Addr) (c3 : Nat) (l3 : List Int) (A4 : Option Addr) (c4 : Nat) (l4 : List (List Int)) (r1 : List Int) (r2 : Option Int) (w : World) (hs3 : Kd.V (Kd.int .u8) 5 w w.heap.size (fun k_ => P3_ k_) (.slice A3 l3.length c3) l3) (hr4 : Kd.C (Kd.slice 5 (Kd.int .u8)) w A4 l4.length l4) (hc4 : l4.length ≤ c4) (h : proof_RootFromInclusionProof.f k a0_0 a0_1 a0_2 a0_3 a0_4 a0_5 a1 a2 l3 l4 = some (r1, r2)) :
    Calls Try.prog 18 #[.iface 40 (.agg #[.int .i64 a0_0, .int .i64 a0_1, .int .i64 a0_2, .int .u64 a0_3, .int .u64 a0_4, .int .u64 a0_5]), .int .u64 a1, .int .u64 a2, .slice A3 l3.length c3, .slice A4 l4.length c4] w fun e w' => ∃ v0_ : Value, ∃ q1_ : Nat, e = .returned (.tuple #[v0_, errW q1_ r2]) ∧ Kd.V (Kd.int .u8) 5 w' w.heap.size (fun k_ => (P3_ k_ ∨ w.heap.size ≤ k_)) v0_ r1 ∧ Below w.heap.size w w' := by
  have HO3 := Aside0.mk (show Kd.V (Kd.int .u8) 5 w w.heap.size (fun k_ => (P3_ k_ ∨ w.heap.size ≤ k_)) (.slice A3 l3.length c3) l3 from Kd.V_mono hs3 (fun k_ hk => .inl hk))
  have HR4 := Aside0.mk hr4
  have HC4 := Aside0.mk hc4
  clear hr4 hc4
  have HB := Aside0.mk (Below.refl w.heap.size w)
  have H : (if a1 ≥ a2 then ((errors_New.f (⟨#[105, 110, 100, 101, 120, 32, 105, 115, 32, 98, 101, 121, 111, 110, 100, 32, 115, 105, 122, 101, 32, 62]⟩ : ByteArray)).bind fun t265 => (some (([] : List Int), t265))) else ((impl_toy_Size.f a0_0 a0_1 a0_2 a0_3 a0_4 a0_5).bind fun t267 => (if (l3.length : Int) = t267 then ((proof_decompInclProof.f a1 a2).bind fun bt270 => (if (l4.length : Int) = (wrap64 (bt270.1 + bt270.2)) then (if 0 ≤ bt270.1 then (if bt270.1 ≤ (l4.length : Int) then ((proof_chainInner.f k a0_0 a0_1 a0_2 a0_3 a0_4 a0_5 l3 (l4.take (bt270.1 : Int).toNat) a1).bind fun t276 => ((proof_chainBorderRight.f k a0_0 a0_1 a0_2 a0_3 a0_4 a0_5 t276 (l4.drop (bt270.1 : Int).toNat)).bind fun t283 => (some (t283, none)))) else (none)) else (none)) else ((errors_New.f (⟨#[119, 114, 111, 110, 103, 32, 112, 114, 111, 111, 102, 32, 115, 105, 122, 101, 44, 32, 119, 97, 110, 116]⟩ : ByteArray)).bind fun t286 => (some (([] : List Int), t286))))) else ((errors_New.f (⟨#[108, 101, 97, 102, 72, 97, 115, 104, 32, 104, 97, 115, 32, 117, 110, 101, 120, 112, 101, 99, 116, 101, 100, 32, 115, 105, 122, 101, 44, 32, 119, 97, 110, 116]⟩ : ByteArray)).bind fun t268 => (some (([] : List Int), t268)))))) = some (r1, r2) := h
  clear h
  by_cases c6 : a1 ≥ a2
  · rw [if_pos c6] at H
    have c6b0 : decide (a2 ≤ a1) = true := decide_eq_true c6
    clear c6
    replace H := Option.bind_eq_some_iff.mp H
    obtain ⟨t265, A70, H⟩ := H
    replace H : (some (([] : List Int), t265)) = some (r1, r2) := H
    have A7 := Aside0.mk A70
    clear A70
    simp only [Option.some.injEq, Prod.mk.injEq] at H
    obtain ⟨rfl, rfl⟩ := H
    go_enter Try.func18, Try.ntmps18
    go_wp2_with (first | ((with_reducible refine gate_callee (f := 24) rfl ?_); refine goesL_ (some 22) rfl rfl Try.func24 (by kernel_rfl) rfl #[.string (⟨#[105, 110, 100, 101, 120, 32, 105, 115, 32, 98, 101, 121, 111, 110, 100, 32, 115, 105, 122, 101, 32, 62]⟩ : ByteArray)] rfl (by (try simp only [List.map_toArray, List.map_cons, List.map_nil]); first | done | rfl | (simp only [List.length_drop, List.length_take]; rfl)) ?_; (with_reducible refine (errors_New.calls (⟨#[105, 110, 100, 101, 120, 32, 105, 115, 32, 98, 101, 121, 111, 110, 100, 32, 115, 105, 122, 101, 32, 62]⟩ : ByteArray) t265 _ A7.out).mono ?_); rintro e w8 ⟨qe266, rfl, hb⟩; refine ⟨_, rfl, ?_⟩; have n0_ := Aside0.mk (Kd.V_below (by (with_reducible repeat (first | apply Kd.V_alloc | apply Kd.V_drewN | apply Kd.V_drew)); exact HO3.out) hb); have n1_ := Aside0.mk (below_step (by repeat (first | (with_reducible first | exact HB.out | apply below_alloc | apply pw_below_drewN | apply below_drew1) | exact HB.out)) hb); clear HO3; clear HB; have HO3 := n0_; have HB := n1_; clear n0_ n1_; (try clear hb); (try clear hb2); (try clear hk); (try clear hi); (try simp only [errW_none, errW_some])))
    go_ret2
    first | exact ⟨_, qe266, by first | rfl | (simp [errW_none, errW_some] <;> rfl) | (simp [*, errW_none, errW_some] <;> rfl), Kd.V_nil _ _ _ _ _, by repeat (first | (with_reducible first | exact HB.out | apply below_alloc | apply pw_below_drewN | apply below_drew1) | exact HB.out)⟩ | exact ⟨_, ⟨qe266, by first | rfl | (simp [errW_none, errW_some] <;> rfl) | (simp [*, errW_none, errW_some] <;> rfl)⟩, Kd.V_nil _ _ _ _ _, by repeat (first | (with_reducible first | exact HB.out | apply below_alloc | apply pw_below_drewN | apply below_drew1) | exact HB.out)⟩
  · rw [if_neg c6] at H
    have c6b0 : decide (a2 ≤ a1) = false := decide_eq_false c6
    clear c6
    replace H := Option.bind_eq_some_iff.mp H
    obtain ⟨t267, A90, H⟩ := H
    replace H : (if (l3.length : Int) = t267 then ((proof_decompInclProof.f a1 a2).bind fun bt270 => (if (l4.length : Int) = (wrap64 (bt270.1 + bt270.2)) then (if 0 ≤ bt270.1 then (if bt270.1 ≤ (l4.length : Int) then ((proof_chainInner.f k a0_0 a0_1 a0_2 a0_3 a0_4 a0_5 l3 (l4.take (bt270.1 : Int).toNat) a1).bind fun t276 => ((proof_chainBorderRight.f k a0_0 a0_1 a0_2 a0_3 a0_4 a0_5 t276 (l4.drop (bt270.1 : Int).toNat)).bind fun t283 => (some (t283, none)))) else (none)) else (none)) else ((errors_New.f (⟨#[119, 114, 111, 110, 103, 32, 112, 114, 111, 111, 102, 32, 115, 105, 122, 101, 44, 32, 119, 97, 110, 116]⟩ : ByteArray)).bind fun t286 => (some (([] : List Int), t286))))) else ((errors_New.f (⟨#[108, 101, 97, 102, 72, 97, 115, 104, 32, 104, 97, 115, 32, 117, 110, 101, 120, 112, 101, 99, 116, 101, 100, 32, 115, 105, 122, 101, 44, 32, 119, 97, 110, 116]⟩ : ByteArray)).bind fun t268 => (some (([] : List Int), t268)))) = some (r1, r2) := H
    have A9 := Aside0.mk A90
    clear A90
    by_cases c10 : (l3.length : Int) = t267
    · rw [if_pos c10] at H
      have c10b0 : ((l3.length : Int) == t267) = true := beq_iff_eq.mpr c10
      have c10b1 : ((l3.length : Int) != t267) = false := bne_eq_false_iff_eq.mpr c10
      clear c10
      replace H := Option.bind_eq_some_iff.mp H
      obtain ⟨⟨t270, t271⟩, A110, H⟩ := H
      replace H : (if (l4.length : Int) = (wrap64 (t270 + t271)) then (if 0 ≤ t270 then (if t270 ≤ (l4.length : Int) then ((proof_chainInner.f k a0_0 a0_1 a0_2 a0_3 a0_4 a0_5 l3 (l4.take (t270 : Int).toNat) a1).bind fun t276 => ((proof_chainBorderRight.f k a0_0 a0_1 a0_2 a0_3 a0_4 a0_5 t276 (l4.drop (t270 : Int).toNat)).bind fun t283 => (some (t283, none)))) else (none)) else (none)) else ((errors_New.f (⟨#[119, 114, 111, 110, 103, 32, 112, 114, 111, 111, 102, 32, 115, 105, 122, 101, 44, 32, 119, 97, 110, 116]⟩ : ByteArray)).bind fun t286 => (some (([] : List Int), t286)))) = some (r1, r2) := H
      have A11 := Aside0.mk A110
      clear A110
      by_cases c12 : (l4.length : Int) = (wrap64 (t270 + t271))
      · rw [if_pos c12] at H
        have c12b0 : ((l4.length : Int) == (wrap64 (t270 + t271))) = true := beq_iff_eq.mpr c12
        have c12b1 : ((l4.length : Int) != (wrap64 (t270 + t271))) = false := bne_eq_false_iff_eq.mpr c12
        clear c12
        by_cases c13 : 0 ≤ t270
        · rw [if_pos c13] at H
          have c13b0 := eq_true c13
          have c13b1 : decide (0 ≤ t270) = true := decide_eq_true c13
          clear c13
          by_cases c14 : t270 ≤ (l4.length : Int)
          · rw [if_pos c14] at H
            have c14b0 := eq_true c14
            have c14b1 : decide (t270 ≤ (l4.length : Int)) = true := decide_eq_true c14
            clear c14
            obtain ⟨y272, hy272⟩ : ∃ y_ : List (List Int), y_ = (l4.take (t270 : Int).toNat) := ⟨_, rfl⟩
            replace H : ((proof_chainInner.f k a0_0 a0_1 a0_2 a0_3 a0_4 a0_5 l3 y272 a1).bind fun t276 => ((proof_chainBorderRight.f k a0_0 a0_1 a0_2 a0_3 a0_4 a0_5 t276 (l4.drop (t270 : Int).toNat)).bind fun t283 => (some (t283, none)))) = some (r1, r2) := by first | (rw [hy272]; with_reducible exact H) | (have H2_ := (Option.bind_some _ _).symm.trans H; rw [hy272]; with_reducible exact H2_) | (have H2_ := (Option.bind_some _ _).symm.trans H; with_reducible exact H2_) | with_reducible exact H | (rw [hy272]; exact H) | exact H
            have Ny272 := Aside0.mk hy272
            clear hy272
            replace H := Option.bind_eq_some_iff.mp H
            obtain ⟨t276, A150, H⟩ := H
            replace H : ((proof_chainBorderRight.f k a0_0 a0_1 a0_2 a0_3 a0_4 a0_5 t276 (l4.drop (t270 : Int).toNat)).bind fun t283 => (some (t283, none))) = some (r1, r2) := H
            have A15 := Aside0.mk A150
            clear A150
            have c16b0 := eq_true (of_decide_eq_true (by first | (with_reducible assumption) | assumption) : 0 ≤ t270)
            have c17b0 := eq_true (of_decide_eq_true (by first | (with_reducible assumption) | assumption) : t270 ≤ (l4.length : Int))
            obtain ⟨y279, hy279⟩ : ∃ y_ : List (List Int), y_ = (l4.drop (t270 : Int).toNat) := ⟨_, rfl⟩
            replace H : ((proof_chainBorderRight.f k a0_0 a0_1 a0_2 a0_3 a0_4 a0_5 t276 y279).bind fun t283 => (some (t283, none))) = some (r1, r2) := by first | (rw [hy279]; with_reducible exact H) | (have H2_ := (Option.bind_some _ _).symm.trans H; rw [hy279]; with_reducible exact H2_) | (have H2_ := (Option.bind_some _ _).symm.trans H; with_reducible exact H2_) | with_reducible exact H | (rw [hy279]; exact H) | exact H
            have Ny279 := Aside0.mk hy279
            clear hy279
            replace H := Option.bind_eq_some_iff.mp H
            obtain ⟨t283, A180, H⟩ := H
            replace H : (some (t283, none)) = some (r1, r2) := H
            have A18 := Aside0.mk A180
            clear A180
            simp only [Option.some.injEq, Prod.mk.injEq] at H
            obtain ⟨rfl, rfl⟩ := H
            go_enter Try.func18, Try.ntmps18
            go_wp2_with (first | ((with_reducible refine gate_invoke (name := "Size") rfl ?_); refine goesLI_ (some 26) rfl rfl Try.func50 (by kernel_rfl) rfl (u := 40) (v := .agg #[.int .i64 a0_0, .int .i64 a0_1, .int .i64 a0_2, .int .u64 a0_3, .int .u64 a0_4, .int .u64 a0_5]) (name := "Size") #[] #[.agg #[.int .i64 a0_0, .int .i64 a0_1, .int .i64 a0_2, .int .u64 a0_3, .int .u64 a0_4, .int .u64 a0_5]] rfl rfl (inv50 _ _) (by (try simp only [List.map_toArray, List.map_cons, List.map_nil]); first | done | rfl | (simp only [List.length_drop, List.length_take]; rfl)) rfl ?_; (with_reducible refine (impl_toy_Size.calls a0_0 a0_1 a0_2 a0_3 a0_4 a0_5 t267 _ A9.out).mono ?_); rintro e w19 ⟨rfl, hb⟩; refine ⟨_, rfl, ?_⟩; have n0_ := Aside0.mk (Kd.V_below (by (with_reducible repeat (first | apply Kd.V_alloc | apply Kd.V_drewN | apply Kd.V_drew)); exact HO3.out) hb); have n1_ := Aside0.mk (below_step (by repeat (first | (with_reducible first | exact HB.out | apply below_alloc | apply pw_below_drewN | apply below_drew1) | exact HB.out)) hb); clear HO3; clear HB; have HO3 := n0_; have HB := n1_; clear n0_ n1_; (try clear hb); (try clear hb2); (try clear hk); (try clear hi)) | ((with_reducible refine gate_callee (f := 25) rfl ?_); refine goesL_ (some 34) rfl rfl Try.func25 (by kernel_rfl) rfl #[.int .u64 a1, .int .u64 a2] rfl (by (try simp only [List.map_toArray, List.map_cons, List.map_nil]); first | done | rfl | (simp only [List.length_drop, List.length_take]; rfl)) ?_; (with_reducible refine (proof_decompInclProof.calls a1 a2 t270 t271 _ A11.out).mono ?_); rintro e w' ⟨rfl, ⟨nd, rfl⟩⟩; refine ⟨_, rfl, ?_⟩; have q20 : (t270 : Int) ≤ ((l4.length : Int) : Int) := of_decide_eq_true (by first | (with_reducible assumption) | assumption); obtain ⟨i020, hi020, _, hsz20, _⟩ := info_parts info25; have hroom20 : l4.length ≤ c4 := HC4.out; have hC20 : Kd.C (Kd.slice 5 (Kd.int .u8)) _ A4 l4.length l4 := HR4.out; have hcut20 := cut_to (P := Try.prog) 26 25 .i64 Try.underlying26 hi020 A4 l4.length c4 t270 (of_decide_eq_true (by first | (with_reducible assumption) | assumption)) q20 hroom20; have hr20 := Kd.C_take (m := (t270 : Int).toNat) hC20 (by omega); have hy20 : y272.length = (t270 : Int).toNat := (by rw [Ny272.out, List.length_take]; omega); rw [← Ny272.out] at hr20; rw [← hy20] at hcut20; have HR275 := Aside0.mk hr20; have HC275 := Aside0.mk (show y272.length ≤ c4 from by omega); clear hr20 hC20 hroom20 hi020 hsz20; have KY20 := Aside0.mk hy20; clear hy20; replace q20 := eq_true q20) | ((with_reducible refine gate_callee (f := 21) rfl ?_); refine goesL_ (some 52) rfl rfl Try.func21 (by kernel_rfl) rfl #[.iface 40 (.agg #[.int .i64 a0_0, .int .i64 a0_1, .int .i64 a0_2, .int .u64 a0_3, .int .u64 a0_4, .int .u64 a0_5]), .slice A3 l3.length c3, .slice A4 y272.length c4, .int .u64 a1] rfl (by (try simp only [List.map_toArray, List.map_cons, List.map_nil]); first | done | rfl | (simp only [List.length_drop, List.length_take]; rfl)) ?_; (with_reducible refine (proof_chainInner.calls k a0_0 a0_1 a0_2 a0_3 a0_4 a0_5 (fun k_ => (P3_ k_ ∨ w.heap.size ≤ k_)) _ _ l3 _ _ y272 a1 t276 _ ?side1 ?side2 ?side3 A15.out).mono ?_); (case side1 => first | exact HO3.out | exact Kd.V_mono HO3.out (fun k_ hk_ => ⟨⟨hk_.1, hk_.2.1⟩, hk_.2.2⟩)); (case side2 => repeat (first | exact (Kd.C_below HR275.out (by repeat (first | (with_reducible first | exact HB.out | apply below_alloc | apply pw_below_drewN | apply below_drew1) | exact HB.out))) | (with_reducible refine Kd.C_alloc ?_ _) | (with_reducible refine Kd.C_drewN ?_ _) | (with_reducible refine Kd.C_drew ?_))); (case side3 => exact HC275.out); rintro e w21 ⟨v277, rfl, ho0, hb⟩; refine ⟨_, rfl, ?_⟩; have n0_ := Aside0.mk (Kd.V_below (by (with_reducible repeat (first | apply Kd.V_alloc | apply Kd.V_drewN | apply Kd.V_drew)); exact HO3.out) hb); have n1_ := Aside0.mk (Kd.V_lower (Kd.V_mono (ok' := fun k_ => (P3_ k_ ∨ w.heap.size ≤ k_)) ho0 (fun k_ hk_ => Or.elim hk_ (fun hs_ => hs_) (fun hn_ => (.inr (Nat.le_trans (below_size (by repeat (first | (with_reducible first | exact HB.out | apply below_alloc | apply pw_below_drewN | apply below_drew1) | exact HB.out))) hn_))))) (below_size (by repeat (first | (with_reducible first | exact HB.out | apply below_alloc | apply pw_below_drewN | apply below_drew1) | exact HB.out)))); have n2_ := Aside0.mk (below_step (by repeat (first | (with_reducible first | exact HB.out | apply below_alloc | apply pw_below_drewN | apply below_drew1) | exact HB.out)) hb); clear HO3; clear HB; have HO3 := n0_; have HO278 := n1_; have HB := n2_; clear n0_ n1_ n2_; (try clear hb); (try clear hb2); (try clear hk); (try clear hi); (try clear ho0); have q22 : (t270 : Int) ≤ ((l4.length : Int) : Int) := of_decide_eq_true (by first | (with_reducible assumption) | assumption); obtain ⟨i022, hi022, _, hsz22, _⟩ := info_parts info25; have hroom22 : l4.length ≤ c4 := HC4.out; have hC22 : Kd.C (Kd.slice 5 (Kd.int .u8)) _ A4 l4.length l4 := HR4.out; have q022 : (0 : Int) ≤ (t270 : Int) := of_decide_eq_true (by first | (with_reducible assumption) | assumption); have hcut22 := cut_from (P := Try.prog) 26 25 .i64 Try.underlying26 hi022 1 hsz22 A4 l4.length c4 t270 q022 q22; have hr22 := Kd.C_drop (m := (t270 : Int).toNat) (c := c4) hC22 (by omega) hroom22; obtain ⟨A22, hA22⟩ : ∃ A1q_, A1q_ = (if c4 = (t270 : Int).toNat then A4 else (A4 : Option Addr).map (·.add ((t270 : Int).toNat * 1))) := ⟨_, rfl⟩; obtain ⟨c22, hc22⟩ : ∃ c1q_, c1q_ = c4 - (t270 : Int).toNat := ⟨_, rfl⟩; have hy22 : y279.length = l4.length - (t270 : Int).toNat := (by rw [Ny279.out, List.length_drop] <;> omega); rw [show (l4).drop (t270 : Int).toNat = y279 from Ny279.out.symm] at hr22; replace hr22 : Kd.C (Kd.slice 5 (Kd.int .u8)) _ A22 y279.length y279 := (by rw [hA22]; exact hr22); rw [← hy22, ← hA22, ← hc22] at hcut22; have HR282 := Aside0.mk hr22; have HC282 := Aside0.mk (show y279.length ≤ c22 from by rw [hy22, hc22]; exact Nat.sub_le_sub_right hroom22 _); clear hr22 hC22 hroom22 hi022 hsz22 hc22; have KY22 := Aside0.mk hy22; have KA22 := Aside0.mk hA22; clear hy22 hA22; replace q22 := eq_true q22; obtain ⟨Ao23, co23, eo23⟩ := Kd.V_slice HO278.out; subst eo23) | ((with_reducible refine gate_callee (f := 23) rfl ?_); refine goesL_ (some 58) rfl rfl Try.func23 (by kernel_rfl) rfl #[.iface 40 (.agg #[.int .i64 a0_0, .int .i64 a0_1, .int .i64 a0_2, .int .u64 a0_3, .int .u64 a0_4, .int .u64 a0_5]), .slice Ao23 t276.length co23, .slice A22 y279.length c22] rfl (by (try simp only [List.map_toArray, List.map_cons, List.map_nil]); first | done | rfl | (simp only [List.length_drop, List.length_take]; rfl)) ?_; (with_reducible refine (proof_chainBorderRight.calls k a0_0 a0_1 a0_2 a0_3 a0_4 a0_5 (fun k_ => (P3_ k_ ∨ w.heap.size ≤ k_)) _ _ t276 _ _ y279 t283 _ ?side1 ?side2 ?side3 A18.out).mono ?_); (case side1 => first | exact HO278.out | exact Kd.V_mono HO278.out (fun k_ hk_ => ⟨⟨hk_.1, hk_.2.1⟩, hk_.2.2⟩)); (case side2 => repeat (first | exact (Kd.C_below HR282.out HB.out) | (with_reducible refine Kd.C_alloc ?_ _) | (with_reducible refine Kd.C_drewN ?_ _) | (with_reducible refine Kd.C_drew ?_))); (case side3 => exact HC282.out); rintro e w24 ⟨v284, rfl, ho0, hb⟩; refine ⟨_, rfl, ?_⟩; have n0_ := Aside0.mk (Kd.V_below (by (with_reducible repeat (first | apply Kd.V_alloc | apply Kd.V_drewN | apply Kd.V_drew)); exact HO3.out) hb); have n1_ := Aside0.mk (Kd.V_below (by (with_reducible repeat (first | apply Kd.V_alloc | apply Kd.V_drewN | apply Kd.V_drew)); exact HO278.out) hb); have n2_ := Aside0.mk (Kd.V_lower (Kd.V_mono (ok' := fun k_ => (P3_ k_ ∨ w.heap.size ≤ k_)) ho0 (fun k_ hk_ => Or.elim hk_ (fun hs_ => hs_) (fun hn_ => (.inr (Nat.le_trans (below_size (by repeat (first | (with_reducible first | exact HB.out | apply below_alloc | apply pw_below_drewN | apply below_drew1) | exact HB.out))) hn_))))) (below_size (by repeat (first | (with_reducible first | exact HB.out | apply below_alloc | apply pw_below_drewN | apply below_drew1) | exact HB.out)))); have n3_ := Aside0.mk (below_step (by repeat (first | (with_reducible first | exact HB.out | apply below_alloc | apply pw_below_drewN | apply below_drew1) | exact HB.out)) hb); clear HO3; clear HO278; clear HB; have HO3 := n0_; have HO278 := n1_; have HO285 := n2_; have HB := n3_; clear n0_ n1_ n2_ n3_; (try clear hb); (try clear hb2); (try clear hk); (try clear hi); (try clear ho0)))
            go_ret2
            first | exact ⟨_, 0, by first | rfl | (simp [errW_none, errW_some] <;> rfl) | (simp [*, errW_none, errW_some] <;> rfl), by (with_reducible repeat (first | apply Kd.V_alloc | apply Kd.V_drewN | apply Kd.V_drew)); exact HO285.out, by repeat (first | (with_reducible first | exact HB.out | apply below_alloc | apply pw_below_drewN | apply below_drew1) | exact HB.out)⟩ | exact ⟨_, ⟨0, by first | rfl | (simp [errW_none, errW_some] <;> rfl) | (simp [*, errW_none, errW_some] <;> rfl)⟩, by (with_reducible repeat (first | apply Kd.V_alloc | apply Kd.V_drewN | apply Kd.V_drew)); exact HO285.out, by repeat (first | (with_reducible first | exact HB.out | apply below_alloc | apply pw_below_drewN | apply below_drew1) | exact HB.out)⟩
          · rw [if_neg c14] at H
            exact absurd H (by simp)
        · rw [if_neg c13] at H
          exact absurd H (by simp)
      · rw [if_neg c12] at H
        have c12b0 : ((l4.length : Int) == (wrap64 (t270 + t271))) = false := beq_eq_false_iff_ne.mpr c12
        have c12b1 : ((l4.length : Int) != (wrap64 (t270 + t271))) = true := bne_iff_ne.mpr c12
        replace H := Option.bind_eq_some_iff.mp H
        obtain ⟨t286, A250, H⟩ := H
        replace H : (some (([] : List Int), t286)) = some (r1, r2) := H
        have A25 := Aside0.mk A250
        clear A250
        simp only [Option.some.injEq, Prod.mk.injEq] at H
        obtain ⟨rfl, rfl⟩ := H
        go_enter Try.func18, Try.ntmps18
        go_wp2_with (first | ((with_reducible refine gate_invoke (name := "Size") rfl ?_); refine goesLI_ (some 26) rfl rfl Try.func50 (by kernel_rfl) rfl (u := 40) (v := .agg #[.int .i64 a0_0, .int .i64 a0_1, .int .i64 a0_2, .int .u64 a0_3, .int .u64 a0_4, .int .u64 a0_5]) (name := "Size") #[] #[.agg #[.int .i64 a0_0, .int .i64 a0_1, .int .i64 a0_2, .int .u64 a0_3, .int .u64 a0_4, .int .u64 a0_5]] rfl rfl (inv50 _ _) (by (try simp only [List.map_toArray, List.map_cons, List.map_nil]); first | done | rfl | (simp only [List.length_drop, List.length_take]; rfl)) rfl ?_; (with_reducible refine (impl_toy_Size.calls a0_0 a0_1 a0_2 a0_3 a0_4 a0_5 t267 _ A9.out).mono ?_); rintro e w26 ⟨rfl, hb⟩; refine ⟨_, rfl, ?_⟩; have n0_ := Aside0.mk (Kd.V_below (by (with_reducible repeat (first | apply Kd.V_alloc | apply Kd.V_drewN | apply Kd.V_drew)); exact HO3.out) hb); have n1_ := Aside0.mk (below_step (by repeat (first | (with_reducible first | exact HB.out | apply below_alloc | apply pw_below_drewN | apply below_drew1) | exact HB.out)) hb); clear HO3; clear HB; have HO3 := n0_; have HB := n1_; clear n0_ n1_; (try clear hb); (try clear hb2); (try clear hk); (try clear hi)) | ((with_reducible refine gate_callee (f := 25) rfl ?_); refine goesL_ (some 34) rfl rfl Try.func25 (by kernel_rfl) rfl #[.int .u64 a1, .int .u64 a2] rfl (by (try simp only [List.map_toArray, List.map_cons, List.map_nil]); first | done | rfl | (simp only [List.length_drop, List.length_take]; rfl)) ?_; (with_reducible refine (proof_decompInclProof.calls a1 a2 t270 t271 _ A11.out).mono ?_); rintro e w' ⟨rfl, ⟨nd, rfl⟩⟩; refine ⟨_, rfl, ?_⟩) | ((with_reducible refine gate_callee (f := 24) rfl ?_); refine goesL_ (some 45) rfl rfl Try.func24 (by kernel_rfl) rfl #[.string (⟨#[119, 114, 111, 110, 103, 32, 112, 114, 111, 111, 102, 32, 115, 105, 122, 101, 44, 32, 119, 97, 110, 116]⟩ : ByteArray)] rfl (by (try simp only [List.map_toArray, List.map_cons, List.map_nil]); first | done | rfl | (simp only [List.length_drop, List.length_take]; rfl)) ?_; (with_reducible refine (errors_New.calls (⟨#[119, 114, 111, 110, 103, 32, 112, 114, 111, 111, 102, 32, 115, 105, 122, 101, 44, 32, 119, 97, 110, 116]⟩ : ByteArray) t286 _ A25.out).mono ?_); rintro e w27 ⟨qe287, rfl, hb⟩; refine ⟨_, rfl, ?_⟩; have n0_ := Aside0.mk (Kd.V_below (by (with_reducible repeat (first | apply Kd.V_alloc | apply Kd.V_drewN | apply Kd.V_drew)); exact HO3.out) hb); have n1_ := Aside0.mk (below_step (by repeat (first | (with_reducible first | exact HB.out | apply below_alloc | apply pw_below_drewN | apply below_drew1) | exact HB.out)) hb); clear HO3; clear HB; have HO3 := n0_; have HB := n1_; clear n0_ n1_; (try clear hb); (try clear hb2); (try clear hk); (try clear hi); (try simp only [errW_none, errW_some])))
        go_ret2
        first | exact ⟨_, qe287, by first | rfl | (simp [errW_none, errW_some] <;> rfl) | (simp [*, errW_none, errW_some] <;> rfl), Kd.V_nil _ _ _ _ _, by repeat (first | (with_reducible first | exact HB.out | apply below_alloc | apply pw_below_drewN | apply below_drew1) | exact HB.out)⟩ | exact ⟨_, ⟨qe287, by first | rfl | (simp [errW_none, errW_some] <;> rfl) | (simp [*, errW_none, errW_some] <;> rfl)⟩, Kd.V_nil _ _ _ _ _, by repeat (first | (with_reducible first | exact HB.out | apply below_alloc | apply pw_below_drewN | apply below_drew1) | exact HB.out)⟩
    · rw [if_neg c10] at H
      have c10b0 : ((l3.length : Int) == t267) = false := beq_eq_false_iff_ne.mpr c10
      have c10b1 : ((l3.length : Int) != t267) = true := bne_iff_ne.mpr c10
      replace H := Option.bind_eq_some_iff.mp H
      obtain ⟨t268, A280, H⟩ := H
      replace H : (some (([] : List Int), t268)) = some (r1, r2) := H
      have A28 := Aside0.mk A280
      clear A280
      simp only [Option.some.injEq, Prod.mk.injEq] at H
      obtain ⟨rfl, rfl⟩ := H
      go_enter Try.func18, Try.ntmps18
      go_wp2_with (first | ((with_reducible refine gate_invoke (name := "Size") rfl ?_); refine goesLI_ (some 26) rfl rfl Try.func50 (by kernel_rfl) rfl (u := 40) (v := .agg #[.int .i64 a0_0, .int .i64 a0_1, .int .i64 a0_2, .int .u64 a0_3, .int .u64 a0_4, .int .u64 a0_5]) (name := "Size") #[] #[.agg #[.int .i64 a0_0, .int .i64 a0_1, .int .i64 a0_2, .int .u64 a0_3, .int .u64 a0_4, .int .u64 a0_5]] rfl rfl (inv50 _ _) (by (try simp only [List.map_toArray, List.map_cons, List.map_nil]); first | done | rfl | (simp only [List.length_drop, List.length_take]; rfl)) rfl ?_; (with_reducible refine (impl_toy_Size.calls a0_0 a0_1 a0_2 a0_3 a0_4 a0_5 t267 _ A9.out).mono ?_); rintro e w29 ⟨rfl, hb⟩; refine ⟨_, rfl, ?_⟩; have n0_ := Aside0.mk (Kd.V_below (by (with_reducible repeat (first | apply Kd.V_alloc | apply Kd.V_drewN | apply Kd.V_drew)); exact HO3.out) hb); have n1_ := Aside0.mk (below_step (by repeat (first | (with_reducible first | exact HB.out | apply below_alloc | apply pw_below_drewN | apply below_drew1) | exact HB.out)) hb); clear HO3; clear HB; have HO3 := n0_; have HB := n1_; clear n0_ n1_; (try clear hb); (try clear hb2); (try clear hk); (try clear hi)) | ((with_reducible refine gate_callee (f := 24) rfl ?_); refine goesL_ (some 30) rfl rfl Try.func24 (by kernel_rfl) rfl #[.string (⟨#[108, 101, 97, 102, 72, 97, 115, 104, 32, 104, 97, 115, 32, 117, 110, 101, 120, 112, 101, 99, 116, 101, 100, 32, 115, 105, 122, 101, 44, 32, 119, 97, 110, 116]⟩ : ByteArray)] rfl (by (try simp only [List.map_toArray, List.map_cons, List.map_nil]); first | done | rfl | (simp only [List.length_drop, List.length_take]; rfl)) ?_; (with_reducible refine (errors_New.calls (⟨#[108, 101, 97, 102, 72, 97, 115, 104, 32, 104, 97, 115, 32, 117, 110, 101, 120, 112, 101, 99, 116, 101, 100, 32, 115, 105, 122, 101, 44, 32, 119, 97, 110, 116]⟩ : ByteArray) t268 _ A28.out).mono ?_); rintro e w30 ⟨qe269, rfl, hb⟩; refine ⟨_, rfl, ?_⟩; have n0_ := Aside0.mk (Kd.V_below (by (with_reducible repeat (first | apply Kd.V_alloc | apply Kd.V_drewN | apply Kd.V_drew)); exact HO3.out) hb); have n1_ := Aside0.mk (below_step (by repeat (first | (with_reducible first | exact HB.out | apply below_alloc | apply pw_below_drewN | apply below_drew1) | exact HB.out)) hb); clear HO3; clear HB; have HO3 := n0_; have HB := n1_; clear n0_ n1_; (try clear hb); (try clear hb2); (try clear hk); (try clear hi); (try simp only [errW_none, errW_some])))
      go_ret2
      first | exact ⟨_, qe269, by first | rfl | (simp [errW_none, errW_some] <;> rfl) | (simp [*, errW_none, errW_some] <;> rfl), Kd.V_nil _ _ _ _ _, by repeat (first | (with_reducible first | exact HB.out | apply below_alloc | apply pw_below_drewN | apply below_drew1) | exact HB.out)⟩ | exact ⟨_, ⟨qe269, by first | rfl | (simp [errW_none, errW_some] <;> rfl) | (simp [*, errW_none, errW_some] <;> rfl)⟩, Kd.V_nil _ _ _ _ _, by repeat (first | (with_reducible first | exact HB.out | apply below_alloc | apply pw_below_drewN | apply below_drew1) | exact HB.out)⟩

end Go.Proofs.Ytijldedhcjkhiaa.X
