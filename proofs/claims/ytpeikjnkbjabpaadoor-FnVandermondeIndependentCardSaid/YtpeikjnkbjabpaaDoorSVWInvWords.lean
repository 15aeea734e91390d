import Derived.Test.YtpeikjnkbjabpaaDoorSVWInv
import Derived.Test.YtpeikjnkbjabpaaDoorSVWFootNe
namespace Go.Proofs.YtpeikjnkbjabpaaDoorW.PrintWords
open Go.RowKit
end Go.Proofs.YtpeikjnkbjabpaaDoorW.PrintWords
namespace Go.Proofs.YtpeikjnkbjabpaaDoorW.PrintLast
section
variable {ops : Array Oper} {a : Act} {o og : Oper} {g : Nat} {t : Tmp} {u : Bool}
end
end Go.Proofs.YtpeikjnkbjabpaaDoorW.PrintLast
