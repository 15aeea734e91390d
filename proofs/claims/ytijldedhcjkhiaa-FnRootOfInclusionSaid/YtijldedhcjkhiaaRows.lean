/-
  No cell of these rows narrows 'for every input' (looked for: loops, veiled, ifaces, maps, wideKeys, modest, calm, conditions, laid).
  DERIVED. THE GIVEN ROWS OF THIS SEAT. 2 by the template 'for every input the law returns true; each argument reads behind the call as it read before'; 0 by the template 'total and deterministic' (their statements: YtijldedhcjkhiaaTotals.lean).
  GIVEN WITH THE SEED: the statements are not yours to turn. If you find one false, say at which input.
  Laid BY PROGRAM, IN A SANDBOX (cutbox-rows.mjs): the forced cells as the released guide's own fill.sh prints them over the translation fb610edabd16e343… (all of the seat's roots in one cut). By AI agents, Wed Nov 11 2026. No macro, syntax, notation, axiom, sorry.
-/
import Derived.Test.YtijldedhcjkhiaaChecked
import GoSem.Claim
import GoSem.ClaimJoined
import GoSem.ClaimMapViews
import Derived.JoinedTies
import Derived.KernelRfl
namespace Go.Proofs.Ytijldedhcjkhiaa
/- THE CELL 'sum', in the pinned program and in every row, IS THE sha256 OF THE DUMP (.gsa) THAT YtijldedhcjkhiaaProg.lean LOADS. Nothing in Lean hashes anything: it is a label: what it is worth is what the hold of that sum in a sandbox is worth. -/
noncomputable def Try.pinned : Pinned := { name := "ytijldedhcjkhiaa", sum := "fb610edabd16e3435b69c6e669dd8fea32c914f8cf462a31da69c04d55b96a60", checked := Try.checked }
namespace Rows
def none {H : Type} : Left H := { results := [], args := [] }

/-- 'laws.FnChainsInParts': WHATEVER THE INPUT: true; the input reads as it did. -/
def fnChainsInPartsSpec : ChangeSpec := { name := "fnChainsInParts", fn := fun _ => fun
  | [d1, d2, d3, d4, d5] => { results := [.lit (.bool true)], args := [d1, d2, d3, d4, d5] }
  | _ => none }
def fnChainsInPartsRow : OpenClaim := { program := "ytijldedhcjkhiaa", sum := "fb610edabd16e3435b69c6e669dd8fea32c914f8cf462a31da69c04d55b96a60", func := "pub-sarsen/laws.FnChainsInParts", spec := "fnChainsInParts", unfollowed := true, recurses := true, apart := false }
def FnChainsInPartsSaid : Prop := fnChainsInPartsRow.holds Try.pinned (OpenSpec.ofChange fnChainsInPartsSpec)

/-- ITS FALSE NEIGHBOUR: 'it returns false'. Refute it at one input. -/
def fnChainsInPartsWrong : ChangeSpec := { name := "fnChainsInParts", fn := fun _ => fun
  | [d1, d2, d3, d4, d5] => { results := [.lit (.bool false)], args := [d1, d2, d3, d4, d5] }
  | _ => none }
def FnChainsInPartsWrongFalsely : Prop := fnChainsInPartsRow.holds Try.pinned (OpenSpec.ofChange fnChainsInPartsWrong)

/-- 'laws.FnRootOfInclusion': WHATEVER THE INPUT: true; the input reads as it did. -/
def fnRootOfInclusionSpec : ChangeSpec := { name := "fnRootOfInclusion", fn := fun _ => fun
  | [d1, d2, d3, d4, d5] => { results := [.lit (.bool true)], args := [d1, d2, d3, d4, d5] }
  | _ => none }
def fnRootOfInclusionRow : OpenClaim := { program := "ytijldedhcjkhiaa", sum := "fb610edabd16e3435b69c6e669dd8fea32c914f8cf462a31da69c04d55b96a60", func := "pub-sarsen/laws.FnRootOfInclusion", spec := "fnRootOfInclusion", unfollowed := true, recurses := true, apart := false }
def FnRootOfInclusionSaid : Prop := fnRootOfInclusionRow.holds Try.pinned (OpenSpec.ofChange fnRootOfInclusionSpec)

/-- ITS FALSE NEIGHBOUR: 'it returns false'. Refute it at one input. -/
def fnRootOfInclusionWrong : ChangeSpec := { name := "fnRootOfInclusion", fn := fun _ => fun
  | [d1, d2, d3, d4, d5] => { results := [.lit (.bool false)], args := [d1, d2, d3, d4, d5] }
  | _ => none }
def FnRootOfInclusionWrongFalsely : Prop := fnRootOfInclusionRow.holds Try.pinned (OpenSpec.ofChange fnRootOfInclusionWrong)

/- THE SECOND FORM. 'bulk': how many values and letters a reading holds, each counted each time it is reached (what is shared counts as often as it is met; a slice's spare places count too). A statement '..UptoSaid' is the law's where the arguments, and the package variables that the reading takes, are together of bulk at most 1048576: NARROWER than '..Said'. Prove '..Said' where nothing that the law and all that it calls make is longer than what came in: it says more and counts as full. Else prove '..UptoSaid'. A law counts once. -/
mutual
def uptoBulk {H : Type} : DataW H → Nat
  | .lit (.string bytes) => bytes.length + 1
  | .lit _ => 1
  | .nil => 1
  | .ptr d => uptoBulk d + 1
  | .slice elems spare => uptoBulkAll elems + uptoBulkAll spare + 1
  | .agg parts => uptoBulkAll parts + 1
  | .iface _ d => uptoBulk d + 1
  | .map entries => uptoBulkEntries entries + 1
  | .held _ => 1
def uptoBulkAll {H : Type} : List (DataW H) → Nat
  | [] => 0
  | d :: r => uptoBulk d + uptoBulkAll r
def uptoBulkEntries {H : Type} : List (Lit × DataW H) → Nat
  | [] => 0
  | x :: r => uptoBulkEntry x + uptoBulkEntries r
def uptoBulkEntry {H : Type} : Lit × DataW H → Nat
  | (.string bytes, d) => bytes.length + uptoBulk d + 1
  | (_, d) => uptoBulk d + 1
 end
def uptoSmall : (H : Type) → List (DataW H) → Bool := fun _ ds => decide (uptoBulkAll ds ≤ 1048576)
def OpenSpec.upto (s : _root_.Go.ChangeSpec) : _root_.Go.OpenSpec := { _root_.Go.OpenSpec.ofChange s with cond := some uptoSmall }

/-- 'laws.FnChainsInParts', WHERE WHAT IT READS IS OF BULK AT MOST 1048576: true; the input reads as it did. -/
def fnChainsInPartsUptoRow : OpenClaim := { program := "ytijldedhcjkhiaa", sum := "fb610edabd16e3435b69c6e669dd8fea32c914f8cf462a31da69c04d55b96a60", func := "pub-sarsen/laws.FnChainsInParts", spec := "fnChainsInParts", unfollowed := true, recurses := true, apart := false, narrowed := true }
def FnChainsInPartsUptoSaid : Prop := fnChainsInPartsUptoRow.holds Try.pinned (OpenSpec.upto fnChainsInPartsSpec)

/-- 'laws.FnRootOfInclusion', WHERE WHAT IT READS IS OF BULK AT MOST 1048576: true; the input reads as it did. -/
def fnRootOfInclusionUptoRow : OpenClaim := { program := "ytijldedhcjkhiaa", sum := "fb610edabd16e3435b69c6e669dd8fea32c914f8cf462a31da69c04d55b96a60", func := "pub-sarsen/laws.FnRootOfInclusion", spec := "fnRootOfInclusion", unfollowed := true, recurses := true, apart := false, narrowed := true }
def FnRootOfInclusionUptoSaid : Prop := fnRootOfInclusionUptoRow.holds Try.pinned (OpenSpec.upto fnRootOfInclusionSpec)

end Rows
end Go.Proofs.Ytijldedhcjkhiaa
