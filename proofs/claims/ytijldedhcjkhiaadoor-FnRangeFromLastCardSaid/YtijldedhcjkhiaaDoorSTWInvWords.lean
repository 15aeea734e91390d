import Derived.Test.YtijldedhcjkhiaaDoorSTWInv
import Derived.Test.YtijldedhcjkhiaaDoorSTWFootNe
namespace Go.Proofs.YtijldedhcjkhiaaDoorW.PrintWords
open Go.RowKit
end Go.Proofs.YtijldedhcjkhiaaDoorW.PrintWords
namespace Go.Proofs.YtijldedhcjkhiaaDoorW.PrintLast
section
variable {ops : Array Oper} {a : Act} {o og : Oper} {g : Nat} {t : Tmp} {u : Bool}
end
end Go.Proofs.YtijldedhcjkhiaaDoorW.PrintLast
