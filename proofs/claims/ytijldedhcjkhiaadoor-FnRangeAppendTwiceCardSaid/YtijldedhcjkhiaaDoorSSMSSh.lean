import Derived.Test.YtijldedhcjkhiaaDoorSSMSM0
import Derived.Test.YtijldedhcjkhiaaDoorSSS0
namespace Go.Proofs.YtijldedhcjkhiaaDoor.S
open Go.RowKit Go.Proofs.YtijldedhcjkhiaaDoorW.PrintWords Go.Proofs.YtijldedhcjkhiaaDoorW.PrintLast Go.Proofs.YtijldedhcjkhiaaDoorW.PrintMore Go.Proofs.YtijldedhcjkhiaaDoorM
theorem min_count (d : Nat) (hd : d ≤ 64) : min ((d : Int).toNat) IntKind.u64.bits = d := by
  show min d 64 = d
  omega
theorem shl_nat (x d : Nat) (hd : d ≤ 64) : shl .u64 (x : Int) (d : Int) = ((x * 2 ^ d % 18446744073709551616 : Nat) : Int) := by
  unfold shl
  rw [min_count d hd, u64_wrap, Int.natCast_emod, Int.natCast_mul, Int.natCast_pow]
  rfl
theorem shr_nat (x d : Nat) (hd : d ≤ 64) : shr .u64 (x : Int) (d : Int) = ((x / 2 ^ d : Nat) : Int) := by
  unfold shr
  rw [min_count d hd, Int.natCast_ediv, Int.natCast_pow]
  rfl
theorem mask_nat (d : Nat) (hd : d < 64) : IntKind.u64.wrap (shl .u64 1 (d : Int) - 1) = ((2 ^ d - 1 : Nat) : Int) := by
  have h := shl_nat 1 d (by omega)
  rw [show ((1 : Nat) : Int) = 1 from rfl] at h
  have hp := pow_lt (show d < 64 from hd)
  have hq := two_pow_pos d
  rw [pow64] at hp
  rw [h, Nat.one_mul, Nat.mod_eq_of_lt hp, u64_wrap]
  omega
end Go.Proofs.YtijldedhcjkhiaaDoor.S
