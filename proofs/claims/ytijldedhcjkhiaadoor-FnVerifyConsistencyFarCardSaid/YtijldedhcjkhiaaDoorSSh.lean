import Derived.Test.YtijldedhcjkhiaaDoorSM0
import Derived.Test.YtijldedhcjkhiaaDoorSX0
namespace Go.Proofs.YtijldedhcjkhiaaDoor.X
open Go.RowKit Go.Proofs.YtijldedhcjkhiaaDoorW.PrintWords Go.Proofs.YtijldedhcjkhiaaDoorW.PrintLast Go.Proofs.YtijldedhcjkhiaaDoorW.PrintMore Go.Proofs.YtijldedhcjkhiaaDoorM
theorem min_count (d : Nat) (hd : d ≤ 64) : min ((d : Int).toNat) IntKind.u64.bits = d := by
  show min d 64 = d
  omega
theorem shl_nat (x d : Nat) (hd : d ≤ 64) : shl .u64 (x : Int) (d : Int) = ((x * 2 ^ d % 18446744073709551616 : Nat) : Int) := by
  unfold shl
  rw [min_count d hd, u64_wrap, Int.natCast_emod, Int.natCast_mul, Int.natCast_pow]
  rfl
theorem shr_nat (x d : Nat) (hd : d ≤ 64) : shr .u64 (x : Int) (d : Int) = ((x / 2 ^ d : Nat) : Int) := by
  unfold shr
  rw [min_count d hd, Int.natCast_ediv, Int.natCast_pow]
  rfl
end Go.Proofs.YtijldedhcjkhiaaDoor.X
