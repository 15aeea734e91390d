-- laid by xprint.py (a program of this session over the kit's print); Lean checks it
import Derived.Test.YtpeikjnkbjabpaaDoorProg
import Derived.Below
import Derived.Deep.Draws
import Derived.Deep.AppendLies
import Derived.Maps.AppendAt
import Derived.OwnWalk
import Derived.Laws.BytesArg
import Derived.Laws.MakeOwn
import Derived.Laws.OwnMore
import Derived.Deep.OwnRows
import Derived.Tactics
import Derived.Lib.ConvBytes
import Derived.Laws.Slices
import Derived.WalkKit
import Derived.KernelRfl
import Derived.RowKit3
import Derived.Deep.LoopGhost
import Derived.Deep.QuietTactic
import Derived.BigQuiet
import Derived.WideLaws
import Derived.Deep.DeepCutAuto
import Derived.Deep.CutBlock
import Derived.Deep.RegionHeld3
import Derived.Laws.Rows
import Derived.Lib.AppendStr
import Derived.ArgAppend
import Derived.Laws.IdiomCopy
import Derived.OrdersHeld
import Derived.Laws.BitsLemmas
import Derived.RowKit
import Derived.Lib.TrailingZeros
import Derived.Laws.Bits64b
import Derived.Lib.BitFns
import Derived.Lib.Strings
import Derived.Lib.Slices
import Derived.Lib.Small
import Derived.Lib.Walk
import Derived.Test.YtpeikjnkbjabpaaDoorWWords
import Derived.Test.YtpeikjnkbjabpaaDoorWLast
import Derived.Test.YtpeikjnkbjabpaaDoorWTab
import Derived.Test.YtpeikjnkbjabpaaDoorWFour
import Derived.Test.YtpeikjnkbjabpaaDoorWQPut
import Derived.Test.YtpeikjnkbjabpaaDoorWApart
import Derived.Test.YtpeikjnkbjabpaaDoorWArr
import Derived.Test.YtpeikjnkbjabpaaDoorWZeros
import Derived.Test.YtpeikjnkbjabpaaDoorWFoot
import Derived.Test.YtpeikjnkbjabpaaDoorWKept
import Derived.Test.YtpeikjnkbjabpaaDoorWShare
import Derived.Test.YtpeikjnkbjabpaaDoorWN
import Derived.Test.YtpeikjnkbjabpaaDoorWFootNe
import Derived.Test.YtpeikjnkbjabpaaDoorWAt
import Derived.Test.YtpeikjnkbjabpaaDoorWEqStruct
import Derived.Test.YtpeikjnkbjabpaaDoorWRepsOne
import Derived.Test.YtpeikjnkbjabpaaDoorWInv
import Derived.Test.YtpeikjnkbjabpaaDoorWInvWords
import Derived.Test.YtpeikjnkbjabpaaDoorWGuard
import Derived.Test.YtpeikjnkbjabpaaDoorWNEv
import Derived.Test.YtpeikjnkbjabpaaDoorWMore
namespace Go.Proofs.YtpeikjnkbjabpaaDoor.N
open Go.RowKit Go.Proofs.YtpeikjnkbjabpaaDoorW.PrintWords Go.Proofs.YtpeikjnkbjabpaaDoorW.PrintLast Go.Proofs.YtpeikjnkbjabpaaDoorW.PrintMore
attribute [local go_sem] max2_int min2_int max_two min_two max_three min_three max_four min_four   -- for this text's walks alone
set_option linter.unusedVariables false
set_option linter.unusedSimpArgs false



def errW (q : Nat) : Option Int → Value
  | none => .nilIface
  | some _ => .iface 84 (.pointer (some ⟨q, 0, none⟩))
theorem errW_none (q : Nat) : errW q none = .nilIface := rfl
theorem errW_some (q : Nat) (c : Int) : errW q (some c) = .iface 84 (.pointer (some ⟨q, 0, none⟩)) := rfl

-- the values' own types

/-- The masks of the upper halves at the levels 0 to 4. -/
def hiM (j : Nat) : Nat := [12297829382473034410, 14757395258967641292, 17361641481138401520, 18374966859414961920, 18446462603027742720].getD j 0
/-- They lie in the world. -/
structure GlobM (w : World) : Prop where mk :: (out : ∀ j, j < 5 → w.cell? ⟨2, j, none⟩ = some (.int .u64 ((hiM j : Nat) : Int)))
theorem GlobM.below {w w' : World} (h : GlobM w) (hb : Below w.heap.size w w') : GlobM w' := ⟨fun j hj => pw_cell_below hb (h.out j hj)⟩
theorem GlobM.drewN {w : World} (h : GlobM w) (n : Nat) : GlobM (w.drewN n) := ⟨h.out⟩
theorem GlobM.drew {w : World} (h : GlobM w) : GlobM w.drew := ⟨h.out⟩

end Go.Proofs.YtpeikjnkbjabpaaDoor.N
