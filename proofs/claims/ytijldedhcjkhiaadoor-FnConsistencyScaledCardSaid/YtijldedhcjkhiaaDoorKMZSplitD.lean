import Derived.Test.YtijldedhcjkhiaaDoorKMZPath
import Derived.Test.YtijldedhcjkhiaaDoorKMZOnes
import Derived.Test.YtijldedhcjkhiaaDoorKZ2
namespace Go.Proofs.YtijldedhcjkhiaaDoor.Z
open Go.RowKit Go.Proofs.YtijldedhcjkhiaaDoorW.PrintWords Go.Proofs.YtijldedhcjkhiaaDoorW.PrintLast Go.Proofs.YtijldedhcjkhiaaDoorW.PrintMore Go.Proofs.YtijldedhcjkhiaaDoorM
theorem u64_sub (a b : Nat) (h : b ≤ a) (ha : a < 18446744073709551616) : IntKind.u64.wrap ((a : Int) - (b : Int)) = ((a - b : Nat) : Int) := by
  rw [show (a : Int) - (b : Int) = ((a - b : Nat) : Int) by omega, u64_small _ (by omega)]
theorem decomp_incl (i m : Nat) (hi : i < m) (h64 : m < 18446744073709551616) : proof_decompInclProof.f (i : Int) (m : Int) = some ((inn i m : Int), (bor i m : Int)) := by
  have hle := inn_le i m 64 hi (by rw [pow64]; omega) (Nat.le_refl _)
  have hx := xor_lt64 (a := i) (b := m - 1) (by omega) (by omega)
  unfold proof_decompInclProof.f proof_innerProofSize.f bits_Len64.f
  have h1 := u64_sub m 1 (by omega) h64
  rw [show ((1 : Nat) : Int) = 1 from rfl] at h1
  rw [h1, xor_nat _ _ (by omega) (by omega), if_pos (by omega), if_pos (by omega), Int.toNat_natCast]
  simp only [Option.bind_some]
  rw [show Lib.bitLen (i ^^^ (m - 1)) = inn i m from rfl, u64_small _ (by omega), if_pos (by omega), shr_nat i _ hle, onesCount _ (Nat.lt_of_le_of_lt (Nat.div_le_self _ _) (by omega))]
  rfl
end Go.Proofs.YtijldedhcjkhiaaDoor.Z
