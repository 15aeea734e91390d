/-
  DERIVED. GIVEN WITH THE SEED: THE CARDS: each row of YtpeikjnkbjabpaaDoorRows.lean that lists a variable, with what it lists TIED to the program's text (the seventh form; the later family's looks); each row that meets fmt, with fmt's text TOLD by the authors' own Lean function (tested against real Go, not proved from fmt's source: count such statements apart). THE CARD IS WHAT COUNTS. Prove the row's statement (the work); the ties are given (YtpeikjnkbjabpaaDoorTie.lean); close each card by the builder's one call (the guide's Derived/Test/ToyasCard.lean, 'card_holds'). Laid BY PROGRAM, IN A SANDBOX (cutbox-door.mjs). By AI agents, Wed Nov 11 2026. No macro, syntax, notation, axiom, sorry.
-/
import Derived.Test.YtpeikjnkbjabpaaDoorRows
import GoSem.ClaimSeven
namespace Go.Proofs.YtpeikjnkbjabpaaDoor
namespace Rows

/-- THE TIED CARD OF 'laws.FnFieldProducts'. -/
def fnFieldProductsCard : Claim7 := { stood := { row := fnFieldProductsRow, standIns := [], harness := (true, "5d687dc5c5413b5b59a6e31296dfc4936c84b1e01d1ab7030431801b96dcb8f1"), looks := false }, kinds := [], alts := [], laidByText := true, laidKinds := [.data, .data], laidTests := true, laidLooks := .later }
def FnFieldProductsCardSaid : Prop := Claim7.holds Tryd.pinned (.plain (OpenSpec.ofChange fnFieldProductsSpec)) fnFieldProductsCard

/-- THE TIED CARD OF 'laws.FnFieldGenerates'. -/
def fnFieldGeneratesCard : Claim7 := { stood := { row := fnFieldGeneratesRow, standIns := [], harness := (true, "5d687dc5c5413b5b59a6e31296dfc4936c84b1e01d1ab7030431801b96dcb8f1"), looks := false }, kinds := [], alts := [], laidByText := true, laidKinds := [.data, .data], laidTests := true, laidLooks := .later }
def FnFieldGeneratesCardSaid : Prop := Claim7.holds Tryd.pinned (.plain (OpenSpec.ofChange fnFieldGeneratesSpec)) fnFieldGeneratesCard

/-- THE TIED CARD OF 'laws.FnNeeded'. -/
def fnNeededCard : Claim7 := { stood := { row := fnNeededRow, standIns := [], harness := (true, "5d687dc5c5413b5b59a6e31296dfc4936c84b1e01d1ab7030431801b96dcb8f1"), looks := false }, kinds := [], alts := [], laidByText := true, laidKinds := [.data], laidTests := true, laidLooks := .later }
def FnNeededCardSaid : Prop := Claim7.holds Tryd.pinned (.plain (OpenSpec.ofChange fnNeededSpec)) fnNeededCard

/-- THE TIED CARD OF 'laws.FnMatrixParts'. -/
def fnMatrixPartsCard : Claim7 := { stood := { row := fnMatrixPartsRow, standIns := [], harness := (true, "5d687dc5c5413b5b59a6e31296dfc4936c84b1e01d1ab7030431801b96dcb8f1"), looks := false }, kinds := [], alts := [], laidByText := true, laidKinds := [.sentinel, .sentinel, .sentinel, .sentinel], laidTests := true, laidLooks := .later }
def FnMatrixPartsCardSaid : Prop := Claim7.holds Tryd.pinned (.plain (OpenSpec.ofChange fnMatrixPartsSpec)) fnMatrixPartsCard

/-- THE TIED CARD OF 'laws.FnMatrixInverts'. -/
def fnMatrixInvertsCard : Claim7 := { stood := { row := fnMatrixInvertsRow, standIns := [], harness := (true, "5d687dc5c5413b5b59a6e31296dfc4936c84b1e01d1ab7030431801b96dcb8f1"), looks := false }, kinds := [], alts := [], laidByText := true, laidKinds := [.data, .data, .sentinel, .sentinel, .sentinel, .sentinel, .sentinel, .sentinel], laidTests := true, laidLooks := .later }
def FnMatrixInvertsCardSaid : Prop := Claim7.holds Tryd.pinned (.plain (OpenSpec.ofChange fnMatrixInvertsSpec)) fnMatrixInvertsCard

/-- THE TIED CARD OF 'laws.FnVandermondeIndependent'. -/
def fnVandermondeIndependentCard : Claim7 := { stood := { row := fnVandermondeIndependentRow, standIns := [], harness := (true, "5d687dc5c5413b5b59a6e31296dfc4936c84b1e01d1ab7030431801b96dcb8f1"), looks := false }, kinds := [], alts := [], laidByText := true, laidKinds := [.data, .data, .sentinel, .sentinel, .sentinel, .sentinel, .sentinel, .sentinel], laidTests := true, laidLooks := .later }
def FnVandermondeIndependentCardSaid : Prop := Claim7.holds Tryd.pinned (.plain (OpenSpec.ofChange fnVandermondeIndependentSpec)) fnVandermondeIndependentCard

/-- THE SECOND FORM's CARD OF 'laws.FnFieldProducts'. -/
def fnFieldProductsUptoCard : Claim7 := { stood := { row := fnFieldProductsUptoRow, standIns := [], harness := (true, "5d687dc5c5413b5b59a6e31296dfc4936c84b1e01d1ab7030431801b96dcb8f1"), looks := false }, kinds := [], alts := [], laidByText := true, laidKinds := [.data, .data], laidTests := true, laidLooks := .later }
def FnFieldProductsUptoCardSaid : Prop := Claim7.holds Tryd.pinned (.plain (OpenSpec.upto fnFieldProductsSpec)) fnFieldProductsUptoCard

/-- THE SECOND FORM's CARD OF 'laws.FnFieldGenerates'. -/
def fnFieldGeneratesUptoCard : Claim7 := { stood := { row := fnFieldGeneratesUptoRow, standIns := [], harness := (true, "5d687dc5c5413b5b59a6e31296dfc4936c84b1e01d1ab7030431801b96dcb8f1"), looks := false }, kinds := [], alts := [], laidByText := true, laidKinds := [.data, .data], laidTests := true, laidLooks := .later }
def FnFieldGeneratesUptoCardSaid : Prop := Claim7.holds Tryd.pinned (.plain (OpenSpec.upto fnFieldGeneratesSpec)) fnFieldGeneratesUptoCard

/-- THE SECOND FORM's CARD OF 'laws.FnNeeded'. -/
def fnNeededUptoCard : Claim7 := { stood := { row := fnNeededUptoRow, standIns := [], harness := (true, "5d687dc5c5413b5b59a6e31296dfc4936c84b1e01d1ab7030431801b96dcb8f1"), looks := false }, kinds := [], alts := [], laidByText := true, laidKinds := [.data], laidTests := true, laidLooks := .later }
def FnNeededUptoCardSaid : Prop := Claim7.holds Tryd.pinned (.plain (OpenSpec.upto fnNeededSpec)) fnNeededUptoCard

/-- THE SECOND FORM's CARD OF 'laws.FnMatrixParts'. -/
def fnMatrixPartsUptoCard : Claim7 := { stood := { row := fnMatrixPartsUptoRow, standIns := [], harness := (true, "5d687dc5c5413b5b59a6e31296dfc4936c84b1e01d1ab7030431801b96dcb8f1"), looks := false }, kinds := [], alts := [], laidByText := true, laidKinds := [.sentinel, .sentinel, .sentinel, .sentinel], laidTests := true, laidLooks := .later }
def FnMatrixPartsUptoCardSaid : Prop := Claim7.holds Tryd.pinned (.plain (OpenSpec.upto fnMatrixPartsSpec)) fnMatrixPartsUptoCard

/-- THE SECOND FORM's CARD OF 'laws.FnMatrixInverts'. -/
def fnMatrixInvertsUptoCard : Claim7 := { stood := { row := fnMatrixInvertsUptoRow, standIns := [], harness := (true, "5d687dc5c5413b5b59a6e31296dfc4936c84b1e01d1ab7030431801b96dcb8f1"), looks := false }, kinds := [], alts := [], laidByText := true, laidKinds := [.data, .data, .sentinel, .sentinel, .sentinel, .sentinel, .sentinel, .sentinel], laidTests := true, laidLooks := .later }
def FnMatrixInvertsUptoCardSaid : Prop := Claim7.holds Tryd.pinned (.plain (OpenSpec.upto fnMatrixInvertsSpec)) fnMatrixInvertsUptoCard

/-- THE SECOND FORM's CARD OF 'laws.FnVandermondeIndependent'. -/
def fnVandermondeIndependentUptoCard : Claim7 := { stood := { row := fnVandermondeIndependentUptoRow, standIns := [], harness := (true, "5d687dc5c5413b5b59a6e31296dfc4936c84b1e01d1ab7030431801b96dcb8f1"), looks := false }, kinds := [], alts := [], laidByText := true, laidKinds := [.data, .data, .sentinel, .sentinel, .sentinel, .sentinel, .sentinel, .sentinel], laidTests := true, laidLooks := .later }
def FnVandermondeIndependentUptoCardSaid : Prop := Claim7.holds Tryd.pinned (.plain (OpenSpec.upto fnVandermondeIndependentSpec)) fnVandermondeIndependentUptoCard
end Rows
end Go.Proofs.YtpeikjnkbjabpaaDoor
