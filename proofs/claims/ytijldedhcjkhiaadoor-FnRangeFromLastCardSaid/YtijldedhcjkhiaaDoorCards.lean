/-
  DERIVED. GIVEN WITH THE SEED: THE CARDS: each row of YtijldedhcjkhiaaDoorRows.lean that lists a variable, with what it lists TIED to the program's text (the seventh form; the later family's looks); each row that meets fmt, with fmt's text TOLD by the authors' own Lean function (tested against real Go, not proved from fmt's source: count such statements apart). THE CARD IS WHAT COUNTS. Prove the row's statement (the work); the ties are given (YtijldedhcjkhiaaDoorTie.lean); close each card by the builder's one call (the guide's Derived/Test/ToyasCard.lean, 'card_holds'). Laid BY PROGRAM, IN A SANDBOX (cutbox-door.mjs). By AI agents, Wed Nov 11 2026. No macro, syntax, notation, axiom, sorry.
-/
import Derived.Test.YtijldedhcjkhiaaDoorRows
import GoSem.ClaimSeven
namespace Go.Proofs.YtijldedhcjkhiaaDoor
namespace Rows

/-- THE TIED CARD OF 'laws.FnMergePath'. -/
def fnMergePathCard : Claim7 := { stood := { row := fnMergePathRow, standIns := [], harness := (true, "89311f80e6b21af085a353f32bd1607d9567aab0ed2e2a73c788febb77f53f56"), looks := true }, kinds := [], alts := [], laidByText := true, laidKinds := [.data], laidTests := true, laidLooks := .later }
def FnMergePathCardSaid : Prop := Claim7.holds Tryd.pinned (.plain (OpenSpec.ofChange fnMergePathSpec)) fnMergePathCard

/-- THE TIED CARD OF 'laws.FnRangeRoot'. -/
def fnRangeRootCard : Claim7 := { stood := { row := fnRangeRootRow, standIns := [], harness := (true, "89311f80e6b21af085a353f32bd1607d9567aab0ed2e2a73c788febb77f53f56"), looks := true }, kinds := [], alts := [], laidByText := true, laidKinds := [.data], laidTests := true, laidLooks := .later }
def FnRangeRootCardSaid : Prop := Claim7.holds Tryd.pinned (.plain (OpenSpec.ofChange fnRangeRootSpec)) fnRangeRootCard

/-- THE TIED CARD OF 'laws.FnTreeOfData'. -/
def fnTreeOfDataCard : Claim7 := { stood := { row := fnTreeOfDataRow, standIns := [], harness := (true, "89311f80e6b21af085a353f32bd1607d9567aab0ed2e2a73c788febb77f53f56"), looks := true }, kinds := [], alts := [], laidByText := true, laidKinds := [.data], laidTests := true, laidLooks := .later }
def FnTreeOfDataCardSaid : Prop := Claim7.holds Tryd.pinned (.plain (OpenSpec.ofChange fnTreeOfDataSpec)) fnTreeOfDataCard

/-- THE TIED CARD OF 'laws.FnVerifyConsistencyFar'. -/
def fnVerifyConsistencyFarCard : Claim7 := { stood := { row := fnVerifyConsistencyFarRow, standIns := [], harness := (true, "89311f80e6b21af085a353f32bd1607d9567aab0ed2e2a73c788febb77f53f56"), looks := true }, kinds := [], alts := [], laidByText := true, laidKinds := [.data], laidTests := true, laidLooks := .later }
def FnVerifyConsistencyFarCardSaid : Prop := Claim7.holds Tryd.pinned (.plain (OpenSpec.ofChange fnVerifyConsistencyFarSpec)) fnVerifyConsistencyFarCard

/-- THE TIED CARD OF 'laws.FnRangeAppendTwice'. -/
def fnRangeAppendTwiceCard : Claim7 := { stood := { row := fnRangeAppendTwiceRow, standIns := [], harness := (true, "89311f80e6b21af085a353f32bd1607d9567aab0ed2e2a73c788febb77f53f56"), looks := true }, kinds := [], alts := [], laidByText := true, laidKinds := [.data], laidTests := true, laidLooks := .later }
def FnRangeAppendTwiceCardSaid : Prop := Claim7.holds Tryd.pinned (.plain (OpenSpec.ofChange fnRangeAppendTwiceSpec)) fnRangeAppendTwiceCard

/-- THE TIED CARD OF 'laws.FnConsistencyCovers'. -/
def fnConsistencyCoversCard : Claim7 := { stood := { row := fnConsistencyCoversRow, standIns := [], harness := (true, "89311f80e6b21af085a353f32bd1607d9567aab0ed2e2a73c788febb77f53f56"), looks := true }, kinds := [], alts := [], laidByText := true, laidKinds := [.data], laidTests := true, laidLooks := .later }
def FnConsistencyCoversCardSaid : Prop := Claim7.holds Tryd.pinned (.plain (OpenSpec.ofChange fnConsistencyCoversSpec)) fnConsistencyCoversCard

/-- THE TIED CARD OF 'laws.FnInclusionHashes'. -/
def fnInclusionHashesCard : Claim7 := { stood := { row := fnInclusionHashesRow, standIns := [], harness := (true, "89311f80e6b21af085a353f32bd1607d9567aab0ed2e2a73c788febb77f53f56"), looks := true }, kinds := [], alts := [], laidByText := true, laidKinds := [.data], laidTests := true, laidLooks := .later }
def FnInclusionHashesCardSaid : Prop := Claim7.holds Tryd.pinned (.plain (OpenSpec.ofChange fnInclusionHashesSpec)) fnInclusionHashesCard

/-- THE TIED CARD OF 'laws.FnManyHands'. -/
def fnManyHandsCard : Claim7 := { stood := { row := fnManyHandsRow, standIns := [], harness := (true, "89311f80e6b21af085a353f32bd1607d9567aab0ed2e2a73c788febb77f53f56"), looks := true }, kinds := [], alts := [], laidByText := true, laidKinds := [.data], laidTests := true, laidLooks := .later }
def FnManyHandsCardSaid : Prop := Claim7.holds Tryd.pinned (.plain (OpenSpec.ofChange fnManyHandsSpec)) fnManyHandsCard

/-- THE TIED CARD OF 'laws.FnRangeFromLast'. -/
def fnRangeFromLastCard : Claim7 := { stood := { row := fnRangeFromLastRow, standIns := [], harness := (true, "89311f80e6b21af085a353f32bd1607d9567aab0ed2e2a73c788febb77f53f56"), looks := true }, kinds := [], alts := [], laidByText := true, laidKinds := [.data], laidTests := true, laidLooks := .later }
def FnRangeFromLastCardSaid : Prop := Claim7.holds Tryd.pinned (.plain (OpenSpec.ofChange fnRangeFromLastSpec)) fnRangeFromLastCard

/-- THE TIED CARD OF 'laws.FnConsistencyScaled'. -/
def fnConsistencyScaledCard : Claim7 := { stood := { row := fnConsistencyScaledRow, standIns := [], harness := (true, "89311f80e6b21af085a353f32bd1607d9567aab0ed2e2a73c788febb77f53f56"), looks := true }, kinds := [], alts := [], laidByText := true, laidKinds := [.data], laidTests := true, laidLooks := .later }
def FnConsistencyScaledCardSaid : Prop := Claim7.holds Tryd.pinned (.plain (OpenSpec.ofChange fnConsistencyScaledSpec)) fnConsistencyScaledCard

/-- THE TIED CARD OF 'laws.FnConsistencyTaken'. -/
def fnConsistencyTakenCard : Claim7 := { stood := { row := fnConsistencyTakenRow, standIns := [], harness := (true, "89311f80e6b21af085a353f32bd1607d9567aab0ed2e2a73c788febb77f53f56"), looks := true }, kinds := [], alts := [], laidByText := true, laidKinds := [.data], laidTests := true, laidLooks := .later }
def FnConsistencyTakenCardSaid : Prop := Claim7.holds Tryd.pinned (.plain (OpenSpec.ofChange fnConsistencyTakenSpec)) fnConsistencyTakenCard

/-- THE TIED CARD OF 'laws.FnConsistencyOfRanges'. -/
def fnConsistencyOfRangesCard : Claim7 := { stood := { row := fnConsistencyOfRangesRow, standIns := [], harness := (true, "89311f80e6b21af085a353f32bd1607d9567aab0ed2e2a73c788febb77f53f56"), looks := true }, kinds := [], alts := [], laidByText := true, laidKinds := [.data], laidTests := true, laidLooks := .later }
def FnConsistencyOfRangesCardSaid : Prop := Claim7.holds Tryd.pinned (.plain (OpenSpec.ofChange fnConsistencyOfRangesSpec)) fnConsistencyOfRangesCard

/-- THE SECOND FORM's CARD OF 'laws.FnMergePath'. -/
def fnMergePathUptoCard : Claim7 := { stood := { row := fnMergePathUptoRow, standIns := [], harness := (true, "89311f80e6b21af085a353f32bd1607d9567aab0ed2e2a73c788febb77f53f56"), looks := true }, kinds := [], alts := [], laidByText := true, laidKinds := [.data], laidTests := true, laidLooks := .later }
def FnMergePathUptoCardSaid : Prop := Claim7.holds Tryd.pinned (.plain (OpenSpec.upto fnMergePathSpec)) fnMergePathUptoCard

/-- THE SECOND FORM's CARD OF 'laws.FnRangeRoot'. -/
def fnRangeRootUptoCard : Claim7 := { stood := { row := fnRangeRootUptoRow, standIns := [], harness := (true, "89311f80e6b21af085a353f32bd1607d9567aab0ed2e2a73c788febb77f53f56"), looks := true }, kinds := [], alts := [], laidByText := true, laidKinds := [.data], laidTests := true, laidLooks := .later }
def FnRangeRootUptoCardSaid : Prop := Claim7.holds Tryd.pinned (.plain (OpenSpec.upto fnRangeRootSpec)) fnRangeRootUptoCard

/-- THE SECOND FORM's CARD OF 'laws.FnTreeOfData'. -/
def fnTreeOfDataUptoCard : Claim7 := { stood := { row := fnTreeOfDataUptoRow, standIns := [], harness := (true, "89311f80e6b21af085a353f32bd1607d9567aab0ed2e2a73c788febb77f53f56"), looks := true }, kinds := [], alts := [], laidByText := true, laidKinds := [.data], laidTests := true, laidLooks := .later }
def FnTreeOfDataUptoCardSaid : Prop := Claim7.holds Tryd.pinned (.plain (OpenSpec.upto fnTreeOfDataSpec)) fnTreeOfDataUptoCard

/-- THE SECOND FORM's CARD OF 'laws.FnVerifyConsistencyFar'. -/
def fnVerifyConsistencyFarUptoCard : Claim7 := { stood := { row := fnVerifyConsistencyFarUptoRow, standIns := [], harness := (true, "89311f80e6b21af085a353f32bd1607d9567aab0ed2e2a73c788febb77f53f56"), looks := true }, kinds := [], alts := [], laidByText := true, laidKinds := [.data], laidTests := true, laidLooks := .later }
def FnVerifyConsistencyFarUptoCardSaid : Prop := Claim7.holds Tryd.pinned (.plain (OpenSpec.upto fnVerifyConsistencyFarSpec)) fnVerifyConsistencyFarUptoCard

/-- THE SECOND FORM's CARD OF 'laws.FnRangeAppendTwice'. -/
def fnRangeAppendTwiceUptoCard : Claim7 := { stood := { row := fnRangeAppendTwiceUptoRow, standIns := [], harness := (true, "89311f80e6b21af085a353f32bd1607d9567aab0ed2e2a73c788febb77f53f56"), looks := true }, kinds := [], alts := [], laidByText := true, laidKinds := [.data], laidTests := true, laidLooks := .later }
def FnRangeAppendTwiceUptoCardSaid : Prop := Claim7.holds Tryd.pinned (.plain (OpenSpec.upto fnRangeAppendTwiceSpec)) fnRangeAppendTwiceUptoCard

/-- THE SECOND FORM's CARD OF 'laws.FnConsistencyCovers'. -/
def fnConsistencyCoversUptoCard : Claim7 := { stood := { row := fnConsistencyCoversUptoRow, standIns := [], harness := (true, "89311f80e6b21af085a353f32bd1607d9567aab0ed2e2a73c788febb77f53f56"), looks := true }, kinds := [], alts := [], laidByText := true, laidKinds := [.data], laidTests := true, laidLooks := .later }
def FnConsistencyCoversUptoCardSaid : Prop := Claim7.holds Tryd.pinned (.plain (OpenSpec.upto fnConsistencyCoversSpec)) fnConsistencyCoversUptoCard

/-- THE SECOND FORM's CARD OF 'laws.FnInclusionHashes'. -/
def fnInclusionHashesUptoCard : Claim7 := { stood := { row := fnInclusionHashesUptoRow, standIns := [], harness := (true, "89311f80e6b21af085a353f32bd1607d9567aab0ed2e2a73c788febb77f53f56"), looks := true }, kinds := [], alts := [], laidByText := true, laidKinds := [.data], laidTests := true, laidLooks := .later }
def FnInclusionHashesUptoCardSaid : Prop := Claim7.holds Tryd.pinned (.plain (OpenSpec.upto fnInclusionHashesSpec)) fnInclusionHashesUptoCard

/-- THE SECOND FORM's CARD OF 'laws.FnManyHands'. -/
def fnManyHandsUptoCard : Claim7 := { stood := { row := fnManyHandsUptoRow, standIns := [], harness := (true, "89311f80e6b21af085a353f32bd1607d9567aab0ed2e2a73c788febb77f53f56"), looks := true }, kinds := [], alts := [], laidByText := true, laidKinds := [.data], laidTests := true, laidLooks := .later }
def FnManyHandsUptoCardSaid : Prop := Claim7.holds Tryd.pinned (.plain (OpenSpec.upto fnManyHandsSpec)) fnManyHandsUptoCard

/-- THE SECOND FORM's CARD OF 'laws.FnRangeFromLast'. -/
def fnRangeFromLastUptoCard : Claim7 := { stood := { row := fnRangeFromLastUptoRow, standIns := [], harness := (true, "89311f80e6b21af085a353f32bd1607d9567aab0ed2e2a73c788febb77f53f56"), looks := true }, kinds := [], alts := [], laidByText := true, laidKinds := [.data], laidTests := true, laidLooks := .later }
def FnRangeFromLastUptoCardSaid : Prop := Claim7.holds Tryd.pinned (.plain (OpenSpec.upto fnRangeFromLastSpec)) fnRangeFromLastUptoCard

/-- THE SECOND FORM's CARD OF 'laws.FnConsistencyScaled'. -/
def fnConsistencyScaledUptoCard : Claim7 := { stood := { row := fnConsistencyScaledUptoRow, standIns := [], harness := (true, "89311f80e6b21af085a353f32bd1607d9567aab0ed2e2a73c788febb77f53f56"), looks := true }, kinds := [], alts := [], laidByText := true, laidKinds := [.data], laidTests := true, laidLooks := .later }
def FnConsistencyScaledUptoCardSaid : Prop := Claim7.holds Tryd.pinned (.plain (OpenSpec.upto fnConsistencyScaledSpec)) fnConsistencyScaledUptoCard

/-- THE SECOND FORM's CARD OF 'laws.FnConsistencyTaken'. -/
def fnConsistencyTakenUptoCard : Claim7 := { stood := { row := fnConsistencyTakenUptoRow, standIns := [], harness := (true, "89311f80e6b21af085a353f32bd1607d9567aab0ed2e2a73c788febb77f53f56"), looks := true }, kinds := [], alts := [], laidByText := true, laidKinds := [.data], laidTests := true, laidLooks := .later }
def FnConsistencyTakenUptoCardSaid : Prop := Claim7.holds Tryd.pinned (.plain (OpenSpec.upto fnConsistencyTakenSpec)) fnConsistencyTakenUptoCard

/-- THE SECOND FORM's CARD OF 'laws.FnConsistencyOfRanges'. -/
def fnConsistencyOfRangesUptoCard : Claim7 := { stood := { row := fnConsistencyOfRangesUptoRow, standIns := [], harness := (true, "89311f80e6b21af085a353f32bd1607d9567aab0ed2e2a73c788febb77f53f56"), looks := true }, kinds := [], alts := [], laidByText := true, laidKinds := [.data], laidTests := true, laidLooks := .later }
def FnConsistencyOfRangesUptoCardSaid : Prop := Claim7.holds Tryd.pinned (.plain (OpenSpec.upto fnConsistencyOfRangesSpec)) fnConsistencyOfRangesUptoCard
end Rows
end Go.Proofs.YtijldedhcjkhiaaDoor
