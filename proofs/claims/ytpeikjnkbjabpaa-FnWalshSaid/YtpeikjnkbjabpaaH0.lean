-- laid by xprint.py (a program of this session over the kit's print); Lean checks it
import Derived.Test.YtpeikjnkbjabpaaProg
import Derived.Below
import Derived.Deep.Draws
import Derived.Deep.AppendLies
import Derived.Maps.AppendAt
import Derived.OwnWalk
import Derived.Laws.BytesArg
import Derived.Laws.MakeOwn
import Derived.Laws.OwnMore
import Derived.Deep.OwnRows
import Derived.Tactics
import Derived.Lib.ConvBytes
import Derived.Laws.Slices
import Derived.WalkKit
import Derived.KernelRfl
import Derived.RowKit3
import Derived.Deep.LoopGhost
import Derived.Deep.QuietTactic
import Derived.BigQuiet
import Derived.WideLaws
import Derived.Deep.DeepCutAuto
import Derived.Deep.CutBlock
import Derived.Deep.RegionHeld3
import Derived.Laws.Rows
import Derived.Lib.AppendStr
import Derived.ArgAppend
import Derived.Laws.IdiomCopy
import Derived.OrdersHeld
import Derived.Laws.BitsLemmas
import Derived.RowKit
import Derived.Lib.TrailingZeros
import Derived.Laws.Bits64b
import Derived.Lib.BitFns
import Derived.Lib.Strings
import Derived.Lib.Slices
import Derived.Lib.Small
import Derived.Lib.Walk
import Derived.Test.YtpeikjnkbjabpaaWWords
import Derived.Test.YtpeikjnkbjabpaaWLast
import Derived.Test.YtpeikjnkbjabpaaWTab
import Derived.Test.YtpeikjnkbjabpaaWFour
import Derived.Test.YtpeikjnkbjabpaaWQPut
import Derived.Test.YtpeikjnkbjabpaaWApart
import Derived.Test.YtpeikjnkbjabpaaWArr
import Derived.Test.YtpeikjnkbjabpaaWZeros
import Derived.Test.YtpeikjnkbjabpaaWFoot
import Derived.Test.YtpeikjnkbjabpaaWKept
import Derived.Test.YtpeikjnkbjabpaaWShare
import Derived.Test.YtpeikjnkbjabpaaWN
import Derived.Test.YtpeikjnkbjabpaaWFootNe
import Derived.Test.YtpeikjnkbjabpaaWAt
import Derived.Test.YtpeikjnkbjabpaaWEqStruct
import Derived.Test.YtpeikjnkbjabpaaWRepsOne
import Derived.Test.YtpeikjnkbjabpaaWInv
import Derived.Test.YtpeikjnkbjabpaaWInvWords
import Derived.Test.YtpeikjnkbjabpaaWGuard
import Derived.Test.YtpeikjnkbjabpaaWNEv
import Derived.Test.YtpeikjnkbjabpaaWMore
namespace Go.Proofs.Ytpeikjnkbjabpaa.H
open Go.RowKit Go.Proofs.YtpeikjnkbjabpaaW.PrintWords Go.Proofs.YtpeikjnkbjabpaaW.PrintLast Go.Proofs.YtpeikjnkbjabpaaW.PrintMore
attribute [local go_sem] max2_int min2_int max_two min_two max_three min_three max_four min_four   -- for this text's walks alone
set_option linter.unusedVariables false
set_option linter.unusedSimpArgs false



def errW (q : Nat) : Option Int → Value
  | none => .nilIface
  | some _ => .iface 0 (.pointer (some ⟨q, 0, none⟩))
theorem errW_none (q : Nat) : errW q none = .nilIface := rfl
theorem errW_some (q : Nat) (c : Int) : errW q (some c) = .iface 0 (.pointer (some ⟨q, 0, none⟩)) := rfl

-- the values' own types

end Go.Proofs.Ytpeikjnkbjabpaa.H
