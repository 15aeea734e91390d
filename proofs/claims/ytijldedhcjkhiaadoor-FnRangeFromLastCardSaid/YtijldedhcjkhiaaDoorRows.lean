/-
  NARROWER THAN 'FOR EVERY INPUT', by the rows' own cells (each row's printed sentence says how): FnMergePath: laid · FnRangeRoot: laid · FnTreeOfData: laid · FnVerifyConsistencyFar: laid · FnRangeAppendTwice: laid · FnConsistencyCovers: laid · FnInclusionHashes: laid · FnManyHands: laid · FnRangeFromLast: laid · FnConsistencyScaled: laid · FnConsistencyTaken: laid · FnConsistencyOfRanges: laid.
  DERIVED. THE GIVEN ROWS OF THIS SEAT. 12 by the template 'for every input the law returns true; each argument reads behind the call as it read before'; 0 by the template 'total and deterministic' (their statements: YtijldedhcjkhiaaDoorTotals.lean).
  GIVEN WITH THE SEED: the statements are not yours to turn. If you find one false, say at which input.
  Laid BY PROGRAM, IN A SANDBOX (cutbox-rows.mjs): the forced cells as the released guide's own fill.sh prints them over the translation 85097d8c6d160d8f… (all of the seat's roots in one cut). By AI agents, Wed Nov 11 2026. No macro, syntax, notation, axiom, sorry.
-/
import Derived.Test.YtijldedhcjkhiaaDoorChecked
import GoSem.Claim
import GoSem.ClaimJoined
import GoSem.ClaimMapViews
import Derived.JoinedTies
import Derived.KernelRfl
namespace Go.Proofs.YtijldedhcjkhiaaDoor
/- THE CELL 'sum', in the pinned program and in every row, IS THE sha256 OF THE DUMP (.gsa) THAT YtijldedhcjkhiaaDoorProg.lean LOADS. Nothing in Lean hashes anything: it is a label: what it is worth is what the hold of that sum in a sandbox is worth. -/
noncomputable def Tryd.pinned : Pinned := { name := "ytijldedhcjkhiaadoor", sum := "85097d8c6d160d8ffcfac56b03d24906a8f618eae5eb0bb3419461bc3724a683", checked := Tryd.checked }
namespace Rows
def none {H : Type} : Left H := { results := [], args := [] }

/- WHAT THE LISTED PACKAGE-LEVEL VARIABLES READ AS WHEN THE CALL BEGINS. Each datum BY PROGRAM (the guide's laid-datum.mjs) off the statement by which the dump's own 'gosem.cut.vars' lays the variable. In a bare row this is a premise. The card (YtijldedhcjkhiaaDoorCards.lean) ties it to the program's text. -/
def laid_math_bits_deBruijn64tab {H : Type} : DataW H := .agg [.lit (.int .u8 0), .lit (.int .u8 1), .lit (.int .u8 56), .lit (.int .u8 2), .lit (.int .u8 57), .lit (.int .u8 49), .lit (.int .u8 28), .lit (.int .u8 3), .lit (.int .u8 61), .lit (.int .u8 58), .lit (.int .u8 42), .lit (.int .u8 50), .lit (.int .u8 38), .lit (.int .u8 29), .lit (.int .u8 17), .lit (.int .u8 4), .lit (.int .u8 62), .lit (.int .u8 47), .lit (.int .u8 59), .lit (.int .u8 36), .lit (.int .u8 45), .lit (.int .u8 43), .lit (.int .u8 51), .lit (.int .u8 22), .lit (.int .u8 53), .lit (.int .u8 39), .lit (.int .u8 33), .lit (.int .u8 30), .lit (.int .u8 24), .lit (.int .u8 18), .lit (.int .u8 12), .lit (.int .u8 5), .lit (.int .u8 63), .lit (.int .u8 55), .lit (.int .u8 48), .lit (.int .u8 27), .lit (.int .u8 60), .lit (.int .u8 41), .lit (.int .u8 37), .lit (.int .u8 16), .lit (.int .u8 46), .lit (.int .u8 35), .lit (.int .u8 44), .lit (.int .u8 21), .lit (.int .u8 52), .lit (.int .u8 32), .lit (.int .u8 23), .lit (.int .u8 11), .lit (.int .u8 54), .lit (.int .u8 26), .lit (.int .u8 40), .lit (.int .u8 15), .lit (.int .u8 34), .lit (.int .u8 20), .lit (.int .u8 31), .lit (.int .u8 10), .lit (.int .u8 25), .lit (.int .u8 14), .lit (.int .u8 19), .lit (.int .u8 9), .lit (.int .u8 13), .lit (.int .u8 8), .lit (.int .u8 7), .lit (.int .u8 6)]

/-- 'laws.FnMergePath': WHATEVER THE INPUT: true; the input reads as it did. -/
def fnMergePathSpec : ChangeSpec := { name := "fnMergePath", fn := fun _ => fun
  | [d1, d2, d3] => { results := [.lit (.bool true)], args := [d1, d2, d3] }
  | _ => none }
def fnMergePathRow : OpenClaim := { program := "ytijldedhcjkhiaadoor", sum := "85097d8c6d160d8ffcfac56b03d24906a8f618eae5eb0bb3419461bc3724a683", func := "pub-sarsen/laws.FnMergePath", spec := "fnMergePath", named := ["math/bits.deBruijn64tab"], apart := false, laid := [("math/bits.deBruijn64tab", laid_math_bits_deBruijn64tab)] }
def FnMergePathSaid : Prop := fnMergePathRow.holds Tryd.pinned (OpenSpec.ofChange fnMergePathSpec)

/-- ITS FALSE NEIGHBOUR: 'it returns false'. Refute it at one input. -/
def fnMergePathWrong : ChangeSpec := { name := "fnMergePath", fn := fun _ => fun
  | [d1, d2, d3] => { results := [.lit (.bool false)], args := [d1, d2, d3] }
  | _ => none }
def FnMergePathWrongFalsely : Prop := fnMergePathRow.holds Tryd.pinned (OpenSpec.ofChange fnMergePathWrong)

/-- 'laws.FnRangeRoot': WHATEVER THE INPUT: true; the input reads as it did. -/
def fnRangeRootSpec : ChangeSpec := { name := "fnRangeRoot", fn := fun _ => fun
  | [d1, d2] => { results := [.lit (.bool true)], args := [d1, d2] }
  | _ => none }
def fnRangeRootRow : OpenClaim := { program := "ytijldedhcjkhiaadoor", sum := "85097d8c6d160d8ffcfac56b03d24906a8f618eae5eb0bb3419461bc3724a683", func := "pub-sarsen/laws.FnRangeRoot", spec := "fnRangeRoot", unfollowed := true, recurses := true, named := ["math/bits.deBruijn64tab"], apart := false, laid := [("math/bits.deBruijn64tab", laid_math_bits_deBruijn64tab)] }
def FnRangeRootSaid : Prop := fnRangeRootRow.holds Tryd.pinned (OpenSpec.ofChange fnRangeRootSpec)

/-- ITS FALSE NEIGHBOUR: 'it returns false'. Refute it at one input. -/
def fnRangeRootWrong : ChangeSpec := { name := "fnRangeRoot", fn := fun _ => fun
  | [d1, d2] => { results := [.lit (.bool false)], args := [d1, d2] }
  | _ => none }
def FnRangeRootWrongFalsely : Prop := fnRangeRootRow.holds Tryd.pinned (OpenSpec.ofChange fnRangeRootWrong)

/-- 'laws.FnTreeOfData': WHATEVER THE INPUT: true; the input reads as it did. -/
def fnTreeOfDataSpec : ChangeSpec := { name := "fnTreeOfData", fn := fun _ => fun
  | [d1, d2] => { results := [.lit (.bool true)], args := [d1, d2] }
  | _ => none }
def fnTreeOfDataRow : OpenClaim := { program := "ytijldedhcjkhiaadoor", sum := "85097d8c6d160d8ffcfac56b03d24906a8f618eae5eb0bb3419461bc3724a683", func := "pub-sarsen/laws.FnTreeOfData", spec := "fnTreeOfData", unfollowed := true, recurses := true, named := ["math/bits.deBruijn64tab"], apart := false, laid := [("math/bits.deBruijn64tab", laid_math_bits_deBruijn64tab)] }
def FnTreeOfDataSaid : Prop := fnTreeOfDataRow.holds Tryd.pinned (OpenSpec.ofChange fnTreeOfDataSpec)

/-- ITS FALSE NEIGHBOUR: 'it returns false'. Refute it at one input. -/
def fnTreeOfDataWrong : ChangeSpec := { name := "fnTreeOfData", fn := fun _ => fun
  | [d1, d2] => { results := [.lit (.bool false)], args := [d1, d2] }
  | _ => none }
def FnTreeOfDataWrongFalsely : Prop := fnTreeOfDataRow.holds Tryd.pinned (OpenSpec.ofChange fnTreeOfDataWrong)

/-- 'laws.FnVerifyConsistencyFar': WHATEVER THE INPUT: true; the input reads as it did. -/
def fnVerifyConsistencyFarSpec : ChangeSpec := { name := "fnVerifyConsistencyFar", fn := fun _ => fun
  | [d1, d2, d3, d4, d5, d6] => { results := [.lit (.bool true)], args := [d1, d2, d3, d4, d5, d6] }
  | _ => none }
def fnVerifyConsistencyFarRow : OpenClaim := { program := "ytijldedhcjkhiaadoor", sum := "85097d8c6d160d8ffcfac56b03d24906a8f618eae5eb0bb3419461bc3724a683", func := "pub-sarsen/laws.FnVerifyConsistencyFar", spec := "fnVerifyConsistencyFar", unfollowed := true, recurses := true, named := ["math/bits.deBruijn64tab"], apart := false, laid := [("math/bits.deBruijn64tab", laid_math_bits_deBruijn64tab)] }
def FnVerifyConsistencyFarSaid : Prop := fnVerifyConsistencyFarRow.holds Tryd.pinned (OpenSpec.ofChange fnVerifyConsistencyFarSpec)

/-- ITS FALSE NEIGHBOUR: 'it returns false'. Refute it at one input. -/
def fnVerifyConsistencyFarWrong : ChangeSpec := { name := "fnVerifyConsistencyFar", fn := fun _ => fun
  | [d1, d2, d3, d4, d5, d6] => { results := [.lit (.bool false)], args := [d1, d2, d3, d4, d5, d6] }
  | _ => none }
def FnVerifyConsistencyFarWrongFalsely : Prop := fnVerifyConsistencyFarRow.holds Tryd.pinned (OpenSpec.ofChange fnVerifyConsistencyFarWrong)

/-- 'laws.FnRangeAppendTwice': WHATEVER THE INPUT: true; the input reads as it did. -/
def fnRangeAppendTwiceSpec : ChangeSpec := { name := "fnRangeAppendTwice", fn := fun _ => fun
  | [d1, d2, d3, d4] => { results := [.lit (.bool true)], args := [d1, d2, d3, d4] }
  | _ => none }
def fnRangeAppendTwiceRow : OpenClaim := { program := "ytijldedhcjkhiaadoor", sum := "85097d8c6d160d8ffcfac56b03d24906a8f618eae5eb0bb3419461bc3724a683", func := "pub-sarsen/laws.FnRangeAppendTwice", spec := "fnRangeAppendTwice", unfollowed := true, recurses := true, named := ["math/bits.deBruijn64tab"], apart := false, laid := [("math/bits.deBruijn64tab", laid_math_bits_deBruijn64tab)] }
def FnRangeAppendTwiceSaid : Prop := fnRangeAppendTwiceRow.holds Tryd.pinned (OpenSpec.ofChange fnRangeAppendTwiceSpec)

/-- ITS FALSE NEIGHBOUR: 'it returns false'. Refute it at one input. -/
def fnRangeAppendTwiceWrong : ChangeSpec := { name := "fnRangeAppendTwice", fn := fun _ => fun
  | [d1, d2, d3, d4] => { results := [.lit (.bool false)], args := [d1, d2, d3, d4] }
  | _ => none }
def FnRangeAppendTwiceWrongFalsely : Prop := fnRangeAppendTwiceRow.holds Tryd.pinned (OpenSpec.ofChange fnRangeAppendTwiceWrong)

/-- 'laws.FnConsistencyCovers': WHATEVER THE INPUT: true; the input reads as it did. -/
def fnConsistencyCoversSpec : ChangeSpec := { name := "fnConsistencyCovers", fn := fun _ => fun
  | [d1, d2] => { results := [.lit (.bool true)], args := [d1, d2] }
  | _ => none }
def fnConsistencyCoversRow : OpenClaim := { program := "ytijldedhcjkhiaadoor", sum := "85097d8c6d160d8ffcfac56b03d24906a8f618eae5eb0bb3419461bc3724a683", func := "pub-sarsen/laws.FnConsistencyCovers", spec := "fnConsistencyCovers", named := ["math/bits.deBruijn64tab"], apart := false, laid := [("math/bits.deBruijn64tab", laid_math_bits_deBruijn64tab)] }
def FnConsistencyCoversSaid : Prop := fnConsistencyCoversRow.holds Tryd.pinned (OpenSpec.ofChange fnConsistencyCoversSpec)

/-- ITS FALSE NEIGHBOUR: 'it returns false'. Refute it at one input. -/
def fnConsistencyCoversWrong : ChangeSpec := { name := "fnConsistencyCovers", fn := fun _ => fun
  | [d1, d2] => { results := [.lit (.bool false)], args := [d1, d2] }
  | _ => none }
def FnConsistencyCoversWrongFalsely : Prop := fnConsistencyCoversRow.holds Tryd.pinned (OpenSpec.ofChange fnConsistencyCoversWrong)

/-- 'laws.FnInclusionHashes': WHATEVER THE INPUT: true; the input reads as it did. -/
def fnInclusionHashesSpec : ChangeSpec := { name := "fnInclusionHashes", fn := fun _ => fun
  | [d1, d2, d3, d4] => { results := [.lit (.bool true)], args := [d1, d2, d3, d4] }
  | _ => none }
def fnInclusionHashesRow : OpenClaim := { program := "ytijldedhcjkhiaadoor", sum := "85097d8c6d160d8ffcfac56b03d24906a8f618eae5eb0bb3419461bc3724a683", func := "pub-sarsen/laws.FnInclusionHashes", spec := "fnInclusionHashes", unfollowed := true, recurses := true, named := ["math/bits.deBruijn64tab"], apart := false, laid := [("math/bits.deBruijn64tab", laid_math_bits_deBruijn64tab)] }
def FnInclusionHashesSaid : Prop := fnInclusionHashesRow.holds Tryd.pinned (OpenSpec.ofChange fnInclusionHashesSpec)

/-- ITS FALSE NEIGHBOUR: 'it returns false'. Refute it at one input. -/
def fnInclusionHashesWrong : ChangeSpec := { name := "fnInclusionHashes", fn := fun _ => fun
  | [d1, d2, d3, d4] => { results := [.lit (.bool false)], args := [d1, d2, d3, d4] }
  | _ => none }
def FnInclusionHashesWrongFalsely : Prop := fnInclusionHashesRow.holds Tryd.pinned (OpenSpec.ofChange fnInclusionHashesWrong)

/-- 'laws.FnManyHands': WHATEVER THE INPUT: true; the input reads as it did. -/
def fnManyHandsSpec : ChangeSpec := { name := "fnManyHands", fn := fun _ => fun
  | [d1, d2, d3, d4] => { results := [.lit (.bool true)], args := [d1, d2, d3, d4] }
  | _ => none }
def fnManyHandsRow : OpenClaim := { program := "ytijldedhcjkhiaadoor", sum := "85097d8c6d160d8ffcfac56b03d24906a8f618eae5eb0bb3419461bc3724a683", func := "pub-sarsen/laws.FnManyHands", spec := "fnManyHands", unfollowed := true, recurses := true, named := ["math/bits.deBruijn64tab"], apart := false, laid := [("math/bits.deBruijn64tab", laid_math_bits_deBruijn64tab)] }
def FnManyHandsSaid : Prop := fnManyHandsRow.holds Tryd.pinned (OpenSpec.ofChange fnManyHandsSpec)

/-- ITS FALSE NEIGHBOUR: 'it returns false'. Refute it at one input. -/
def fnManyHandsWrong : ChangeSpec := { name := "fnManyHands", fn := fun _ => fun
  | [d1, d2, d3, d4] => { results := [.lit (.bool false)], args := [d1, d2, d3, d4] }
  | _ => none }
def FnManyHandsWrongFalsely : Prop := fnManyHandsRow.holds Tryd.pinned (OpenSpec.ofChange fnManyHandsWrong)

/-- 'laws.FnRangeFromLast': WHATEVER THE INPUT: true; the input reads as it did. -/
def fnRangeFromLastSpec : ChangeSpec := { name := "fnRangeFromLast", fn := fun _ => fun
  | [d1, d2, d3, d4] => { results := [.lit (.bool true)], args := [d1, d2, d3, d4] }
  | _ => none }
def fnRangeFromLastRow : OpenClaim := { program := "ytijldedhcjkhiaadoor", sum := "85097d8c6d160d8ffcfac56b03d24906a8f618eae5eb0bb3419461bc3724a683", func := "pub-sarsen/laws.FnRangeFromLast", spec := "fnRangeFromLast", unfollowed := true, recurses := true, named := ["math/bits.deBruijn64tab"], apart := false, laid := [("math/bits.deBruijn64tab", laid_math_bits_deBruijn64tab)] }
def FnRangeFromLastSaid : Prop := fnRangeFromLastRow.holds Tryd.pinned (OpenSpec.ofChange fnRangeFromLastSpec)

/-- ITS FALSE NEIGHBOUR: 'it returns false'. Refute it at one input. -/
def fnRangeFromLastWrong : ChangeSpec := { name := "fnRangeFromLast", fn := fun _ => fun
  | [d1, d2, d3, d4] => { results := [.lit (.bool false)], args := [d1, d2, d3, d4] }
  | _ => none }
def FnRangeFromLastWrongFalsely : Prop := fnRangeFromLastRow.holds Tryd.pinned (OpenSpec.ofChange fnRangeFromLastWrong)

/-- 'laws.FnConsistencyScaled': WHATEVER THE INPUT: true; the input reads as it did. -/
def fnConsistencyScaledSpec : ChangeSpec := { name := "fnConsistencyScaled", fn := fun _ => fun
  | [d1, d2, d3, d4, d5, d6, d7] => { results := [.lit (.bool true)], args := [d1, d2, d3, d4, d5, d6, d7] }
  | _ => none }
def fnConsistencyScaledRow : OpenClaim := { program := "ytijldedhcjkhiaadoor", sum := "85097d8c6d160d8ffcfac56b03d24906a8f618eae5eb0bb3419461bc3724a683", func := "pub-sarsen/laws.FnConsistencyScaled", spec := "fnConsistencyScaled", unfollowed := true, recurses := true, named := ["math/bits.deBruijn64tab"], apart := false, laid := [("math/bits.deBruijn64tab", laid_math_bits_deBruijn64tab)] }
def FnConsistencyScaledSaid : Prop := fnConsistencyScaledRow.holds Tryd.pinned (OpenSpec.ofChange fnConsistencyScaledSpec)

/-- ITS FALSE NEIGHBOUR: 'it returns false'. Refute it at one input. -/
def fnConsistencyScaledWrong : ChangeSpec := { name := "fnConsistencyScaled", fn := fun _ => fun
  | [d1, d2, d3, d4, d5, d6, d7] => { results := [.lit (.bool false)], args := [d1, d2, d3, d4, d5, d6, d7] }
  | _ => none }
def FnConsistencyScaledWrongFalsely : Prop := fnConsistencyScaledRow.holds Tryd.pinned (OpenSpec.ofChange fnConsistencyScaledWrong)

/-- 'laws.FnConsistencyTaken': WHATEVER THE INPUT: true; the input reads as it did. -/
def fnConsistencyTakenSpec : ChangeSpec := { name := "fnConsistencyTaken", fn := fun _ => fun
  | [d1, d2, d3, d4] => { results := [.lit (.bool true)], args := [d1, d2, d3, d4] }
  | _ => none }
def fnConsistencyTakenRow : OpenClaim := { program := "ytijldedhcjkhiaadoor", sum := "85097d8c6d160d8ffcfac56b03d24906a8f618eae5eb0bb3419461bc3724a683", func := "pub-sarsen/laws.FnConsistencyTaken", spec := "fnConsistencyTaken", unfollowed := true, recurses := true, named := ["math/bits.deBruijn64tab"], apart := false, laid := [("math/bits.deBruijn64tab", laid_math_bits_deBruijn64tab)] }
def FnConsistencyTakenSaid : Prop := fnConsistencyTakenRow.holds Tryd.pinned (OpenSpec.ofChange fnConsistencyTakenSpec)

/-- ITS FALSE NEIGHBOUR: 'it returns false'. Refute it at one input. -/
def fnConsistencyTakenWrong : ChangeSpec := { name := "fnConsistencyTaken", fn := fun _ => fun
  | [d1, d2, d3, d4] => { results := [.lit (.bool false)], args := [d1, d2, d3, d4] }
  | _ => none }
def FnConsistencyTakenWrongFalsely : Prop := fnConsistencyTakenRow.holds Tryd.pinned (OpenSpec.ofChange fnConsistencyTakenWrong)

/-- 'laws.FnConsistencyOfRanges': WHATEVER THE INPUT: true; the input reads as it did. -/
def fnConsistencyOfRangesSpec : ChangeSpec := { name := "fnConsistencyOfRanges", fn := fun _ => fun
  | [d1, d2, d3] => { results := [.lit (.bool true)], args := [d1, d2, d3] }
  | _ => none }
def fnConsistencyOfRangesRow : OpenClaim := { program := "ytijldedhcjkhiaadoor", sum := "85097d8c6d160d8ffcfac56b03d24906a8f618eae5eb0bb3419461bc3724a683", func := "pub-sarsen/laws.FnConsistencyOfRanges", spec := "fnConsistencyOfRanges", unfollowed := true, recurses := true, named := ["math/bits.deBruijn64tab"], apart := false, laid := [("math/bits.deBruijn64tab", laid_math_bits_deBruijn64tab)] }
def FnConsistencyOfRangesSaid : Prop := fnConsistencyOfRangesRow.holds Tryd.pinned (OpenSpec.ofChange fnConsistencyOfRangesSpec)

/-- ITS FALSE NEIGHBOUR: 'it returns false'. Refute it at one input. -/
def fnConsistencyOfRangesWrong : ChangeSpec := { name := "fnConsistencyOfRanges", fn := fun _ => fun
  | [d1, d2, d3] => { results := [.lit (.bool false)], args := [d1, d2, d3] }
  | _ => none }
def FnConsistencyOfRangesWrongFalsely : Prop := fnConsistencyOfRangesRow.holds Tryd.pinned (OpenSpec.ofChange fnConsistencyOfRangesWrong)

/- THE SECOND FORM. 'bulk': how many values and letters a reading holds, each counted each time it is reached (what is shared counts as often as it is met; a slice's spare places count too). A statement '..UptoSaid' is the law's where the arguments, and the package variables that the reading takes, are together of bulk at most 1048576: NARROWER than '..Said'. Prove '..Said' where nothing that the law and all that it calls make is longer than what came in: it says more and counts as full. Else prove '..UptoSaid'. A law counts once. -/
mutual
def uptoBulk {H : Type} : DataW H → Nat
  | .lit (.string bytes) => bytes.length + 1
  | .lit _ => 1
  | .nil => 1
  | .ptr d => uptoBulk d + 1
  | .slice elems spare => uptoBulkAll elems + uptoBulkAll spare + 1
  | .agg parts => uptoBulkAll parts + 1
  | .iface _ d => uptoBulk d + 1
  | .map entries => uptoBulkEntries entries + 1
  | .held _ => 1
def uptoBulkAll {H : Type} : List (DataW H) → Nat
  | [] => 0
  | d :: r => uptoBulk d + uptoBulkAll r
def uptoBulkEntries {H : Type} : List (Lit × DataW H) → Nat
  | [] => 0
  | x :: r => uptoBulkEntry x + uptoBulkEntries r
def uptoBulkEntry {H : Type} : Lit × DataW H → Nat
  | (.string bytes, d) => bytes.length + uptoBulk d + 1
  | (_, d) => uptoBulk d + 1
 end
def uptoSmall : (H : Type) → List (DataW H) → Bool := fun _ ds => decide (uptoBulkAll ds ≤ 1048576)
def OpenSpec.upto (s : _root_.Go.ChangeSpec) : _root_.Go.OpenSpec := { _root_.Go.OpenSpec.ofChange s with cond := some uptoSmall }

/-- 'laws.FnMergePath', WHERE WHAT IT READS IS OF BULK AT MOST 1048576: true; the input reads as it did. -/
def fnMergePathUptoRow : OpenClaim := { program := "ytijldedhcjkhiaadoor", sum := "85097d8c6d160d8ffcfac56b03d24906a8f618eae5eb0bb3419461bc3724a683", func := "pub-sarsen/laws.FnMergePath", spec := "fnMergePath", named := ["math/bits.deBruijn64tab"], apart := false, laid := [("math/bits.deBruijn64tab", laid_math_bits_deBruijn64tab)], narrowed := true }
def FnMergePathUptoSaid : Prop := fnMergePathUptoRow.holds Tryd.pinned (OpenSpec.upto fnMergePathSpec)

/-- 'laws.FnRangeRoot', WHERE WHAT IT READS IS OF BULK AT MOST 1048576: true; the input reads as it did. -/
def fnRangeRootUptoRow : OpenClaim := { program := "ytijldedhcjkhiaadoor", sum := "85097d8c6d160d8ffcfac56b03d24906a8f618eae5eb0bb3419461bc3724a683", func := "pub-sarsen/laws.FnRangeRoot", spec := "fnRangeRoot", unfollowed := true, recurses := true, named := ["math/bits.deBruijn64tab"], apart := false, laid := [("math/bits.deBruijn64tab", laid_math_bits_deBruijn64tab)], narrowed := true }
def FnRangeRootUptoSaid : Prop := fnRangeRootUptoRow.holds Tryd.pinned (OpenSpec.upto fnRangeRootSpec)

/-- 'laws.FnTreeOfData', WHERE WHAT IT READS IS OF BULK AT MOST 1048576: true; the input reads as it did. -/
def fnTreeOfDataUptoRow : OpenClaim := { program := "ytijldedhcjkhiaadoor", sum := "85097d8c6d160d8ffcfac56b03d24906a8f618eae5eb0bb3419461bc3724a683", func := "pub-sarsen/laws.FnTreeOfData", spec := "fnTreeOfData", unfollowed := true, recurses := true, named := ["math/bits.deBruijn64tab"], apart := false, laid := [("math/bits.deBruijn64tab", laid_math_bits_deBruijn64tab)], narrowed := true }
def FnTreeOfDataUptoSaid : Prop := fnTreeOfDataUptoRow.holds Tryd.pinned (OpenSpec.upto fnTreeOfDataSpec)

/-- 'laws.FnVerifyConsistencyFar', WHERE WHAT IT READS IS OF BULK AT MOST 1048576: true; the input reads as it did. -/
def fnVerifyConsistencyFarUptoRow : OpenClaim := { program := "ytijldedhcjkhiaadoor", sum := "85097d8c6d160d8ffcfac56b03d24906a8f618eae5eb0bb3419461bc3724a683", func := "pub-sarsen/laws.FnVerifyConsistencyFar", spec := "fnVerifyConsistencyFar", unfollowed := true, recurses := true, named := ["math/bits.deBruijn64tab"], apart := false, laid := [("math/bits.deBruijn64tab", laid_math_bits_deBruijn64tab)], narrowed := true }
def FnVerifyConsistencyFarUptoSaid : Prop := fnVerifyConsistencyFarUptoRow.holds Tryd.pinned (OpenSpec.upto fnVerifyConsistencyFarSpec)

/-- 'laws.FnRangeAppendTwice', WHERE WHAT IT READS IS OF BULK AT MOST 1048576: true; the input reads as it did. -/
def fnRangeAppendTwiceUptoRow : OpenClaim := { program := "ytijldedhcjkhiaadoor", sum := "85097d8c6d160d8ffcfac56b03d24906a8f618eae5eb0bb3419461bc3724a683", func := "pub-sarsen/laws.FnRangeAppendTwice", spec := "fnRangeAppendTwice", unfollowed := true, recurses := true, named := ["math/bits.deBruijn64tab"], apart := false, laid := [("math/bits.deBruijn64tab", laid_math_bits_deBruijn64tab)], narrowed := true }
def FnRangeAppendTwiceUptoSaid : Prop := fnRangeAppendTwiceUptoRow.holds Tryd.pinned (OpenSpec.upto fnRangeAppendTwiceSpec)

/-- 'laws.FnConsistencyCovers', WHERE WHAT IT READS IS OF BULK AT MOST 1048576: true; the input reads as it did. -/
def fnConsistencyCoversUptoRow : OpenClaim := { program := "ytijldedhcjkhiaadoor", sum := "85097d8c6d160d8ffcfac56b03d24906a8f618eae5eb0bb3419461bc3724a683", func := "pub-sarsen/laws.FnConsistencyCovers", spec := "fnConsistencyCovers", named := ["math/bits.deBruijn64tab"], apart := false, laid := [("math/bits.deBruijn64tab", laid_math_bits_deBruijn64tab)], narrowed := true }
def FnConsistencyCoversUptoSaid : Prop := fnConsistencyCoversUptoRow.holds Tryd.pinned (OpenSpec.upto fnConsistencyCoversSpec)

/-- 'laws.FnInclusionHashes', WHERE WHAT IT READS IS OF BULK AT MOST 1048576: true; the input reads as it did. -/
def fnInclusionHashesUptoRow : OpenClaim := { program := "ytijldedhcjkhiaadoor", sum := "85097d8c6d160d8ffcfac56b03d24906a8f618eae5eb0bb3419461bc3724a683", func := "pub-sarsen/laws.FnInclusionHashes", spec := "fnInclusionHashes", unfollowed := true, recurses := true, named := ["math/bits.deBruijn64tab"], apart := false, laid := [("math/bits.deBruijn64tab", laid_math_bits_deBruijn64tab)], narrowed := true }
def FnInclusionHashesUptoSaid : Prop := fnInclusionHashesUptoRow.holds Tryd.pinned (OpenSpec.upto fnInclusionHashesSpec)

/-- 'laws.FnManyHands', WHERE WHAT IT READS IS OF BULK AT MOST 1048576: true; the input reads as it did. -/
def fnManyHandsUptoRow : OpenClaim := { program := "ytijldedhcjkhiaadoor", sum := "85097d8c6d160d8ffcfac56b03d24906a8f618eae5eb0bb3419461bc3724a683", func := "pub-sarsen/laws.FnManyHands", spec := "fnManyHands", unfollowed := true, recurses := true, named := ["math/bits.deBruijn64tab"], apart := false, laid := [("math/bits.deBruijn64tab", laid_math_bits_deBruijn64tab)], narrowed := true }
def FnManyHandsUptoSaid : Prop := fnManyHandsUptoRow.holds Tryd.pinned (OpenSpec.upto fnManyHandsSpec)

/-- 'laws.FnRangeFromLast', WHERE WHAT IT READS IS OF BULK AT MOST 1048576: true; the input reads as it did. -/
def fnRangeFromLastUptoRow : OpenClaim := { program := "ytijldedhcjkhiaadoor", sum := "85097d8c6d160d8ffcfac56b03d24906a8f618eae5eb0bb3419461bc3724a683", func := "pub-sarsen/laws.FnRangeFromLast", spec := "fnRangeFromLast", unfollowed := true, recurses := true, named := ["math/bits.deBruijn64tab"], apart := false, laid := [("math/bits.deBruijn64tab", laid_math_bits_deBruijn64tab)], narrowed := true }
def FnRangeFromLastUptoSaid : Prop := fnRangeFromLastUptoRow.holds Tryd.pinned (OpenSpec.upto fnRangeFromLastSpec)

/-- 'laws.FnConsistencyScaled', WHERE WHAT IT READS IS OF BULK AT MOST 1048576: true; the input reads as it did. -/
def fnConsistencyScaledUptoRow : OpenClaim := { program := "ytijldedhcjkhiaadoor", sum := "85097d8c6d160d8ffcfac56b03d24906a8f618eae5eb0bb3419461bc3724a683", func := "pub-sarsen/laws.FnConsistencyScaled", spec := "fnConsistencyScaled", unfollowed := true, recurses := true, named := ["math/bits.deBruijn64tab"], apart := false, laid := [("math/bits.deBruijn64tab", laid_math_bits_deBruijn64tab)], narrowed := true }
def FnConsistencyScaledUptoSaid : Prop := fnConsistencyScaledUptoRow.holds Tryd.pinned (OpenSpec.upto fnConsistencyScaledSpec)

/-- 'laws.FnConsistencyTaken', WHERE WHAT IT READS IS OF BULK AT MOST 1048576: true; the input reads as it did. -/
def fnConsistencyTakenUptoRow : OpenClaim := { program := "ytijldedhcjkhiaadoor", sum := "85097d8c6d160d8ffcfac56b03d24906a8f618eae5eb0bb3419461bc3724a683", func := "pub-sarsen/laws.FnConsistencyTaken", spec := "fnConsistencyTaken", unfollowed := true, recurses := true, named := ["math/bits.deBruijn64tab"], apart := false, laid := [("math/bits.deBruijn64tab", laid_math_bits_deBruijn64tab)], narrowed := true }
def FnConsistencyTakenUptoSaid : Prop := fnConsistencyTakenUptoRow.holds Tryd.pinned (OpenSpec.upto fnConsistencyTakenSpec)

/-- 'laws.FnConsistencyOfRanges', WHERE WHAT IT READS IS OF BULK AT MOST 1048576: true; the input reads as it did. -/
def fnConsistencyOfRangesUptoRow : OpenClaim := { program := "ytijldedhcjkhiaadoor", sum := "85097d8c6d160d8ffcfac56b03d24906a8f618eae5eb0bb3419461bc3724a683", func := "pub-sarsen/laws.FnConsistencyOfRanges", spec := "fnConsistencyOfRanges", unfollowed := true, recurses := true, named := ["math/bits.deBruijn64tab"], apart := false, laid := [("math/bits.deBruijn64tab", laid_math_bits_deBruijn64tab)], narrowed := true }
def FnConsistencyOfRangesUptoSaid : Prop := fnConsistencyOfRangesUptoRow.holds Tryd.pinned (OpenSpec.upto fnConsistencyOfRangesSpec)

end Rows
end Go.Proofs.YtijldedhcjkhiaaDoor
