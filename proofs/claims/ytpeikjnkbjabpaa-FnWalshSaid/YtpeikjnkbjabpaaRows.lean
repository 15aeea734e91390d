/-
  No cell of these rows narrows 'for every input' (looked for: loops, veiled, ifaces, maps, wideKeys, modest, calm, conditions, laid).
  DERIVED. THE GIVEN ROWS OF THIS SEAT. 5 by the template 'for every input the law returns true; each argument reads behind the call as it read before'; 0 by the template 'total and deterministic' (their statements: YtpeikjnkbjabpaaTotals.lean).
  GIVEN WITH THE SEED: the statements are not yours to turn. If you find one false, say at which input.
  Laid BY PROGRAM, IN A SANDBOX (cutbox-rows.mjs): the forced cells as the released guide's own fill.sh prints them over the translation 5bc68a54e1ae697c… (all of the seat's roots in one cut). By AI agents, Wed Nov 11 2026. No macro, syntax, notation, axiom, sorry.
-/
import Derived.Test.YtpeikjnkbjabpaaChecked
import GoSem.Claim
import GoSem.ClaimJoined
import GoSem.ClaimMapViews
import Derived.JoinedTies
import Derived.KernelRfl
namespace Go.Proofs.Ytpeikjnkbjabpaa
/- THE CELL 'sum', in the pinned program and in every row, IS THE sha256 OF THE DUMP (.gsa) THAT YtpeikjnkbjabpaaProg.lean LOADS. Nothing in Lean hashes anything: it is a label: what it is worth is what the hold of that sum in a sandbox is worth. -/
noncomputable def Try.pinned : Pinned := { name := "ytpeikjnkbjabpaa", sum := "5bc68a54e1ae697c050601af01a174123148531f2bfda97626696e4ffeada13e", checked := Try.checked }
namespace Rows
def none {H : Type} : Left H := { results := [], args := [] }

/-- 'laws.FnCoverage': WHATEVER THE INPUT: true; the input reads as it did. -/
def fnCoverageSpec : ChangeSpec := { name := "fnCoverage", fn := fun _ => fun
  | [d] => { results := [.lit (.bool true)], args := [d] }
  | _ => none }
def fnCoverageRow : OpenClaim := { program := "ytpeikjnkbjabpaa", sum := "5bc68a54e1ae697c050601af01a174123148531f2bfda97626696e4ffeada13e", func := "pub-sarsen/laws.FnCoverage", spec := "fnCoverage", apart := false }
def FnCoverageSaid : Prop := fnCoverageRow.holds Try.pinned (OpenSpec.ofChange fnCoverageSpec)

/-- ITS FALSE NEIGHBOUR: 'it returns false'. Refute it at one input. -/
def fnCoverageWrong : ChangeSpec := { name := "fnCoverage", fn := fun _ => fun
  | [d] => { results := [.lit (.bool false)], args := [d] }
  | _ => none }
def FnCoverageWrongFalsely : Prop := fnCoverageRow.holds Try.pinned (OpenSpec.ofChange fnCoverageWrong)

/-- 'laws.FnDecomposeMinimal': WHATEVER THE INPUT: true; the input reads as it did. -/
def fnDecomposeMinimalSpec : ChangeSpec := { name := "fnDecomposeMinimal", fn := fun _ => fun
  | [d1, d2] => { results := [.lit (.bool true)], args := [d1, d2] }
  | _ => none }
def fnDecomposeMinimalRow : OpenClaim := { program := "ytpeikjnkbjabpaa", sum := "5bc68a54e1ae697c050601af01a174123148531f2bfda97626696e4ffeada13e", func := "pub-sarsen/laws.FnDecomposeMinimal", spec := "fnDecomposeMinimal", apart := false }
def FnDecomposeMinimalSaid : Prop := fnDecomposeMinimalRow.holds Try.pinned (OpenSpec.ofChange fnDecomposeMinimalSpec)

/-- ITS FALSE NEIGHBOUR: 'it returns false'. Refute it at one input. -/
def fnDecomposeMinimalWrong : ChangeSpec := { name := "fnDecomposeMinimal", fn := fun _ => fun
  | [d1, d2] => { results := [.lit (.bool false)], args := [d1, d2] }
  | _ => none }
def FnDecomposeMinimalWrongFalsely : Prop := fnDecomposeMinimalRow.holds Try.pinned (OpenSpec.ofChange fnDecomposeMinimalWrong)

/-- 'laws.FnDecomposeScaled': WHATEVER THE INPUT: true; the input reads as it did. -/
def fnDecomposeScaledSpec : ChangeSpec := { name := "fnDecomposeScaled", fn := fun _ => fun
  | [d1, d2, d3] => { results := [.lit (.bool true)], args := [d1, d2, d3] }
  | _ => none }
def fnDecomposeScaledRow : OpenClaim := { program := "ytpeikjnkbjabpaa", sum := "5bc68a54e1ae697c050601af01a174123148531f2bfda97626696e4ffeada13e", func := "pub-sarsen/laws.FnDecomposeScaled", spec := "fnDecomposeScaled", apart := false }
def FnDecomposeScaledSaid : Prop := fnDecomposeScaledRow.holds Try.pinned (OpenSpec.ofChange fnDecomposeScaledSpec)

/-- ITS FALSE NEIGHBOUR: 'it returns false'. Refute it at one input. -/
def fnDecomposeScaledWrong : ChangeSpec := { name := "fnDecomposeScaled", fn := fun _ => fun
  | [d1, d2, d3] => { results := [.lit (.bool false)], args := [d1, d2, d3] }
  | _ => none }
def FnDecomposeScaledWrongFalsely : Prop := fnDecomposeScaledRow.holds Try.pinned (OpenSpec.ofChange fnDecomposeScaledWrong)

/-- 'laws.FnProofSizes': WHATEVER THE INPUT: true; the input reads as it did. -/
def fnProofSizesSpec : ChangeSpec := { name := "fnProofSizes", fn := fun _ => fun
  | [d1, d2] => { results := [.lit (.bool true)], args := [d1, d2] }
  | _ => none }
def fnProofSizesRow : OpenClaim := { program := "ytpeikjnkbjabpaa", sum := "5bc68a54e1ae697c050601af01a174123148531f2bfda97626696e4ffeada13e", func := "pub-sarsen/laws.FnProofSizes", spec := "fnProofSizes", recurses := true, apart := false }
def FnProofSizesSaid : Prop := fnProofSizesRow.holds Try.pinned (OpenSpec.ofChange fnProofSizesSpec)

/-- ITS FALSE NEIGHBOUR: 'it returns false'. Refute it at one input. -/
def fnProofSizesWrong : ChangeSpec := { name := "fnProofSizes", fn := fun _ => fun
  | [d1, d2] => { results := [.lit (.bool false)], args := [d1, d2] }
  | _ => none }
def FnProofSizesWrongFalsely : Prop := fnProofSizesRow.holds Try.pinned (OpenSpec.ofChange fnProofSizesWrong)

/-- 'laws.FnWalsh': WHATEVER THE INPUT: true; the input reads as it did. -/
def fnWalshSpec : ChangeSpec := { name := "fnWalsh", fn := fun _ => fun
  | [d1, d2] => { results := [.lit (.bool true)], args := [d1, d2] }
  | _ => none }
def fnWalshRow : OpenClaim := { program := "ytpeikjnkbjabpaa", sum := "5bc68a54e1ae697c050601af01a174123148531f2bfda97626696e4ffeada13e", func := "pub-sarsen/laws.FnWalsh", spec := "fnWalsh", apart := false }
def FnWalshSaid : Prop := fnWalshRow.holds Try.pinned (OpenSpec.ofChange fnWalshSpec)

/-- ITS FALSE NEIGHBOUR: 'it returns false'. Refute it at one input. -/
def fnWalshWrong : ChangeSpec := { name := "fnWalsh", fn := fun _ => fun
  | [d1, d2] => { results := [.lit (.bool false)], args := [d1, d2] }
  | _ => none }
def FnWalshWrongFalsely : Prop := fnWalshRow.holds Try.pinned (OpenSpec.ofChange fnWalshWrong)

/- THE SECOND FORM. 'bulk': how many values and letters a reading holds, each counted each time it is reached (what is shared counts as often as it is met; a slice's spare places count too). A statement '..UptoSaid' is the law's where the arguments, and the package variables that the reading takes, are together of bulk at most 1048576: NARROWER than '..Said'. Prove '..Said' where nothing that the law and all that it calls make is longer than what came in: it says more and counts as full. Else prove '..UptoSaid'. A law counts once. -/
mutual
def uptoBulk {H : Type} : DataW H → Nat
  | .lit (.string bytes) => bytes.length + 1
  | .lit _ => 1
  | .nil => 1
  | .ptr d => uptoBulk d + 1
  | .slice elems spare => uptoBulkAll elems + uptoBulkAll spare + 1
  | .agg parts => uptoBulkAll parts + 1
  | .iface _ d => uptoBulk d + 1
  | .map entries => uptoBulkEntries entries + 1
  | .held _ => 1
def uptoBulkAll {H : Type} : List (DataW H) → Nat
  | [] => 0
  | d :: r => uptoBulk d + uptoBulkAll r
def uptoBulkEntries {H : Type} : List (Lit × DataW H) → Nat
  | [] => 0
  | x :: r => uptoBulkEntry x + uptoBulkEntries r
def uptoBulkEntry {H : Type} : Lit × DataW H → Nat
  | (.string bytes, d) => bytes.length + uptoBulk d + 1
  | (_, d) => uptoBulk d + 1
 end
def uptoSmall : (H : Type) → List (DataW H) → Bool := fun _ ds => decide (uptoBulkAll ds ≤ 1048576)
def OpenSpec.upto (s : _root_.Go.ChangeSpec) : _root_.Go.OpenSpec := { _root_.Go.OpenSpec.ofChange s with cond := some uptoSmall }

/-- 'laws.FnCoverage', WHERE WHAT IT READS IS OF BULK AT MOST 1048576: true; the input reads as it did. -/
def fnCoverageUptoRow : OpenClaim := { program := "ytpeikjnkbjabpaa", sum := "5bc68a54e1ae697c050601af01a174123148531f2bfda97626696e4ffeada13e", func := "pub-sarsen/laws.FnCoverage", spec := "fnCoverage", apart := false, narrowed := true }
def FnCoverageUptoSaid : Prop := fnCoverageUptoRow.holds Try.pinned (OpenSpec.upto fnCoverageSpec)

/-- 'laws.FnDecomposeMinimal', WHERE WHAT IT READS IS OF BULK AT MOST 1048576: true; the input reads as it did. -/
def fnDecomposeMinimalUptoRow : OpenClaim := { program := "ytpeikjnkbjabpaa", sum := "5bc68a54e1ae697c050601af01a174123148531f2bfda97626696e4ffeada13e", func := "pub-sarsen/laws.FnDecomposeMinimal", spec := "fnDecomposeMinimal", apart := false, narrowed := true }
def FnDecomposeMinimalUptoSaid : Prop := fnDecomposeMinimalUptoRow.holds Try.pinned (OpenSpec.upto fnDecomposeMinimalSpec)

/-- 'laws.FnDecomposeScaled', WHERE WHAT IT READS IS OF BULK AT MOST 1048576: true; the input reads as it did. -/
def fnDecomposeScaledUptoRow : OpenClaim := { program := "ytpeikjnkbjabpaa", sum := "5bc68a54e1ae697c050601af01a174123148531f2bfda97626696e4ffeada13e", func := "pub-sarsen/laws.FnDecomposeScaled", spec := "fnDecomposeScaled", apart := false, narrowed := true }
def FnDecomposeScaledUptoSaid : Prop := fnDecomposeScaledUptoRow.holds Try.pinned (OpenSpec.upto fnDecomposeScaledSpec)

/-- 'laws.FnProofSizes', WHERE WHAT IT READS IS OF BULK AT MOST 1048576: true; the input reads as it did. -/
def fnProofSizesUptoRow : OpenClaim := { program := "ytpeikjnkbjabpaa", sum := "5bc68a54e1ae697c050601af01a174123148531f2bfda97626696e4ffeada13e", func := "pub-sarsen/laws.FnProofSizes", spec := "fnProofSizes", recurses := true, apart := false, narrowed := true }
def FnProofSizesUptoSaid : Prop := fnProofSizesUptoRow.holds Try.pinned (OpenSpec.upto fnProofSizesSpec)

/-- 'laws.FnWalsh', WHERE WHAT IT READS IS OF BULK AT MOST 1048576: true; the input reads as it did. -/
def fnWalshUptoRow : OpenClaim := { program := "ytpeikjnkbjabpaa", sum := "5bc68a54e1ae697c050601af01a174123148531f2bfda97626696e4ffeada13e", func := "pub-sarsen/laws.FnWalsh", spec := "fnWalsh", apart := false, narrowed := true }
def FnWalshUptoSaid : Prop := fnWalshUptoRow.holds Try.pinned (OpenSpec.upto fnWalshSpec)

end Rows
end Go.Proofs.Ytpeikjnkbjabpaa
