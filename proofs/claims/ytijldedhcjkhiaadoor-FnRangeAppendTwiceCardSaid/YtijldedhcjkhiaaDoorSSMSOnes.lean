import Derived.Test.YtijldedhcjkhiaaDoorSSMSPop
import Derived.Test.YtijldedhcjkhiaaDoorSSMSSh
import Derived.Test.YtijldedhcjkhiaaDoorSSS7
namespace Go.Proofs.YtijldedhcjkhiaaDoor.S
open Go.RowKit Go.Proofs.YtijldedhcjkhiaaDoorW.PrintWords Go.Proofs.YtijldedhcjkhiaaDoorW.PrintLast Go.Proofs.YtijldedhcjkhiaaDoorW.PrintMore Go.Proofs.YtijldedhcjkhiaaDoorM
theorem and_eq (x c : Nat) (X C : Int) (hX : X = (x : Int)) (hC : C = (c : Int)) (h1 : x < 18446744073709551616) (h2 : c < 18446744073709551616) : Go.bits .and .u64 X C = ((x &&& c : Nat) : Int) := by
  subst hX hC
  exact and_nat x c h1 h2
theorem and127 (x : Nat) (h : x < 18446744073709551616) : Go.bits .and .i64 (wrap64 (x : Int)) 127 = ((x % 128 : Nat) : Int) := by
  have h1 : BitVec.ofInt 64 (wrap64 (x : Int)) = BitVec.ofNat 64 x := by
    unfold wrap64
    apply BitVec.eq_of_toNat_eq
    rw [BitVec.toNat_ofInt, BitVec.toNat_ofNat]
    omega
  have h2 : (BitVec.ofInt 64 127 : BitVec 64) = BitVec.ofNat 64 127 := by decide
  show IntKind.i64.wrap ((BitVec.ofInt 64 (wrap64 (x : Int)) &&& BitVec.ofInt 64 127).toNat : Int) = _
  rw [h1, h2, BitVec.toNat_and, BitVec.toNat_ofNat, BitVec.toNat_ofNat, Nat.mod_eq_of_lt (by omega), show 127 % 2 ^ 64 = 2 ^ 7 - 1 from by decide, Nat.and_two_pow_sub_one_eq_mod, IntKind.wrap_i64]
  omega
theorem onesCount (x : Nat) (hx : x < 18446744073709551616) : bits_OnesCount64.f (x : Int) = some ((pop 64 x : Nat) : Int) := by
  obtain ⟨s1, s2, l, h1, h1', h2, h2', h3, hl, hb, hs⟩ := swar x hx
  obtain ⟨s4, s5, s6, h4, h5, h6, h4', h5', h6', h7⟩ := swar_sum l hl hb
  have d1 : (x : Int) / 2 = ((x / 2 : Nat) : Int) := by omega
  have d2 : (s1 : Int) / 4 = ((s1 / 4 : Nat) : Int) := by omega
  have d3 : (s2 : Int) / 16 = ((s2 / 16 : Nat) : Int) := by omega
  have lx : x / 2 < 18446744073709551616 := by omega
  have ls : s1 / 4 < 18446744073709551616 := by omega
  have hs2 : s2 < 18446744073709551616 := by omega
  have hv : val l < 18446744073709551616 := by omega
  have g1 : Go.bits .and .u64 ((x : Int) / 2) 6148914691236517205 = ((x / 2 &&& 6148914691236517205 : Nat) : Int) := and_eq _ _ _ _ d1 rfl lx (by decide)
  have g2 : Go.bits .and .u64 (x : Int) 6148914691236517205 = ((x &&& 6148914691236517205 : Nat) : Int) := and_eq _ _ _ _ rfl rfl hx (by decide)
  have g3 : IntKind.u64.wrap (((x / 2 &&& 6148914691236517205 : Nat) : Int) + ((x &&& 6148914691236517205 : Nat) : Int)) = (s1 : Int) := by
    rw [← Int.natCast_add, h1, u64_small _ h1']
  have g4 : Go.bits .and .u64 ((s1 : Int) / 4) 3689348814741910323 = ((s1 / 4 &&& 3689348814741910323 : Nat) : Int) := and_eq _ _ _ _ d2 rfl ls (by decide)
  have g5 : Go.bits .and .u64 (s1 : Int) 3689348814741910323 = ((s1 &&& 3689348814741910323 : Nat) : Int) := and_eq _ _ _ _ rfl rfl h1' (by decide)
  have g6 : IntKind.u64.wrap (((s1 / 4 &&& 3689348814741910323 : Nat) : Int) + ((s1 &&& 3689348814741910323 : Nat) : Int)) = (s2 : Int) := by
    rw [← Int.natCast_add, h2, u64_small _ hs2]
  have g7 : IntKind.u64.wrap ((s2 : Int) / 16 + (s2 : Int)) = ((s2 / 16 + s2 : Nat) : Int) := by
    rw [d3, ← Int.natCast_add, u64_small _ h2']
  have g8 : Go.bits .and .u64 ((s2 / 16 + s2 : Nat) : Int) 1085102592571150095 = ((val l : Nat) : Int) := by
    rw [← h3]
    exact and_eq _ _ _ _ rfl rfl h2' (by decide)
  have g9 : IntKind.u64.wrap (((val l : Nat) : Int) + ((val l : Nat) : Int) / 256) = (s4 : Int) := by
    rw [show ((val l : Nat) : Int) / 256 = ((val l / 256 : Nat) : Int) by omega, ← Int.natCast_add, h4, u64_small _ h4']
  have g10 : IntKind.u64.wrap ((s4 : Int) + (s4 : Int) / 65536) = (s5 : Int) := by
    rw [show (s4 : Int) / 65536 = ((s4 / 65536 : Nat) : Int) by omega, ← Int.natCast_add, h5, u64_small _ h5']
  have g11 : IntKind.u64.wrap ((s5 : Int) + (s5 : Int) / 4294967296) = (s6 : Int) := by
    rw [show (s5 : Int) / 4294967296 = ((s5 / 4294967296 : Nat) : Int) by omega, ← Int.natCast_add, h6, u64_small _ h6']
  unfold bits_OnesCount64.f
  simp only [g1, g2, g3, g4, g5, g6, g7, g8, g9, g10, g11]
  rw [and127 _ h6', h7, hs]
end Go.Proofs.YtijldedhcjkhiaaDoor.S
