/-
  DERIVED. GIVEN WITH THE SEED: THE CARDS: each row of YtaamolahbkgofaaGreatDoorRows.lean that lists a variable, with what it lists TIED to the program's text (the seventh form; the later family's looks); each row that meets fmt, with fmt's text TOLD by the authors' own Lean function (tested against real Go, not proved from fmt's source: count such statements apart). THE CARD IS WHAT COUNTS. Prove the row's statement (the work); the ties are given (YtaamolahbkgofaaGreatDoorTie.lean); close each card by the builder's one call (the guide's Derived/Test/ToyasCard.lean, 'card_holds'). Laid BY PROGRAM, IN A SANDBOX (cutbox-door.mjs). By AI agents, Wed Nov 11 2026. No macro, syntax, notation, axiom, sorry.
-/
import Derived.Test.YtaamolahbkgofaaGreatDoorRows
import GoSem.ClaimSeven
namespace Go.Proofs.YtaamolahbkgofaaGreatDoor
namespace Rows

/-- THE TIED CARD OF 'laws.FnLexPlaces'. -/
def fnLexPlacesCard : Claim7 := { stood := { row := fnLexPlacesRow, standIns := [], harness := (true, "05128834e9706628839b710431c63ece714b33c913076a224a2057ef2449d0f3"), looks := true }, kinds := [], alts := [], laidByText := true, laidKinds := [.data, .data, .data, .data, .handle, .sentinel, .sentinel, .listed, .sentinel, .pinned], laidTests := true, laidLooks := .later }
def FnLexPlacesCardSaid : Prop := Claim7.holds Tryz.pinned (.plain (OpenSpec.ofChange fnLexPlacesSpec)) fnLexPlacesCard

/-- THE TIED CARD OF 'laws.FnPlacesOfTokens'. -/
def fnPlacesOfTokensCard : Claim7 := { stood := { row := fnPlacesOfTokensRow, standIns := [], harness := (true, "05128834e9706628839b710431c63ece714b33c913076a224a2057ef2449d0f3"), looks := true }, kinds := [], alts := [], laidByText := true, laidKinds := [.data, .data, .data, .data, .handle, .sentinel, .sentinel, .listed, .sentinel, .pinned], laidTests := true, laidLooks := .later }
def FnPlacesOfTokensCardSaid : Prop := Claim7.holds Tryz.pinned (.plain (OpenSpec.ofChange fnPlacesOfTokensSpec)) fnPlacesOfTokensCard

/-- THE TIED CARD OF 'laws.FnLexCase'. -/
def fnLexCaseCard : Claim7 := { stood := { row := fnLexCaseRow, standIns := [], harness := (true, "05128834e9706628839b710431c63ece714b33c913076a224a2057ef2449d0f3"), looks := true }, kinds := [], alts := [], laidByText := true, laidKinds := [.data, .data, .data, .data, .handle, .sentinel, .sentinel, .listed, .sentinel, .pinned], laidTests := true, laidLooks := .later }
def FnLexCaseCardSaid : Prop := Claim7.holds Tryz.pinned (.plain (OpenSpec.ofChange fnLexCaseSpec)) fnLexCaseCard

/-- THE TIED CARD OF 'laws.FnLexForms'. -/
def fnLexFormsCard : Claim7 := { stood := { row := fnLexFormsRow, standIns := [], harness := (true, "05128834e9706628839b710431c63ece714b33c913076a224a2057ef2449d0f3"), looks := true }, kinds := [], alts := [], laidByText := true, laidKinds := [.data, .data, .data, .data, .handle, .sentinel, .sentinel, .listed, .sentinel, .pinned], laidTests := true, laidLooks := .later }
def FnLexFormsCardSaid : Prop := Claim7.holds Tryz.pinned (.plain (OpenSpec.ofChange fnLexFormsSpec)) fnLexFormsCard

/-- THE TIED CARD OF 'laws.FnLooseKeeps'. -/
def fnLooseKeepsCard : Claim7 := { stood := { row := fnLooseKeepsRow, standIns := [], harness := (true, "05128834e9706628839b710431c63ece714b33c913076a224a2057ef2449d0f3"), looks := true }, kinds := [], alts := [], laidByText := true, laidKinds := [.data, .data, .data, .data, .handle, .sentinel, .sentinel, .listed, .sentinel, .pinned], laidTests := true, laidLooks := .later }
def FnLooseKeepsCardSaid : Prop := Claim7.holds Tryz.pinned (.plain (OpenSpec.ofChange fnLooseKeepsSpec)) fnLooseKeepsCard

/-- THE TIED CARD OF 'laws.FnNamesOfTokens'. -/
def fnNamesOfTokensCard : Claim7 := { stood := { row := fnNamesOfTokensRow, standIns := [], harness := (true, "05128834e9706628839b710431c63ece714b33c913076a224a2057ef2449d0f3"), looks := true }, kinds := [], alts := [], laidByText := true, laidKinds := [.data, .data, .data, .data, .handle, .sentinel, .sentinel, .listed, .sentinel, .pinned], laidTests := true, laidLooks := .later }
def FnNamesOfTokensCardSaid : Prop := Claim7.holds Tryz.pinned (.plain (OpenSpec.ofChange fnNamesOfTokensSpec)) fnNamesOfTokensCard

/-- THE TIED CARD OF 'laws.FnSplitOnce'. -/
def fnSplitOnceCard : Claim7 := { stood := { row := fnSplitOnceRow, standIns := [], harness := (true, "05128834e9706628839b710431c63ece714b33c913076a224a2057ef2449d0f3"), looks := true }, kinds := [], alts := [], laidByText := true, laidKinds := [.data, .data, .data, .data, .handle, .sentinel, .sentinel, .listed, .sentinel, .pinned], laidTests := true, laidLooks := .later }
def FnSplitOnceCardSaid : Prop := Claim7.holds Tryz.pinned (.plain (OpenSpec.ofChange fnSplitOnceSpec)) fnSplitOnceCard

/-- THE SECOND FORM's CARD OF 'laws.FnLexPlaces'. -/
def fnLexPlacesUptoCard : Claim7 := { stood := { row := fnLexPlacesUptoRow, standIns := [], harness := (true, "05128834e9706628839b710431c63ece714b33c913076a224a2057ef2449d0f3"), looks := true }, kinds := [], alts := [], laidByText := true, laidKinds := [.data, .data, .data, .data, .handle, .sentinel, .sentinel, .listed, .sentinel, .pinned], laidTests := true, laidLooks := .later }
def FnLexPlacesUptoCardSaid : Prop := Claim7.holds Tryz.pinned (.plain (OpenSpec.upto fnLexPlacesSpec)) fnLexPlacesUptoCard

/-- THE SECOND FORM's CARD OF 'laws.FnPlacesOfTokens'. -/
def fnPlacesOfTokensUptoCard : Claim7 := { stood := { row := fnPlacesOfTokensUptoRow, standIns := [], harness := (true, "05128834e9706628839b710431c63ece714b33c913076a224a2057ef2449d0f3"), looks := true }, kinds := [], alts := [], laidByText := true, laidKinds := [.data, .data, .data, .data, .handle, .sentinel, .sentinel, .listed, .sentinel, .pinned], laidTests := true, laidLooks := .later }
def FnPlacesOfTokensUptoCardSaid : Prop := Claim7.holds Tryz.pinned (.plain (OpenSpec.upto fnPlacesOfTokensSpec)) fnPlacesOfTokensUptoCard

/-- THE SECOND FORM's CARD OF 'laws.FnLexCase'. -/
def fnLexCaseUptoCard : Claim7 := { stood := { row := fnLexCaseUptoRow, standIns := [], harness := (true, "05128834e9706628839b710431c63ece714b33c913076a224a2057ef2449d0f3"), looks := true }, kinds := [], alts := [], laidByText := true, laidKinds := [.data, .data, .data, .data, .handle, .sentinel, .sentinel, .listed, .sentinel, .pinned], laidTests := true, laidLooks := .later }
def FnLexCaseUptoCardSaid : Prop := Claim7.holds Tryz.pinned (.plain (OpenSpec.upto fnLexCaseSpec)) fnLexCaseUptoCard

/-- THE SECOND FORM's CARD OF 'laws.FnLexForms'. -/
def fnLexFormsUptoCard : Claim7 := { stood := { row := fnLexFormsUptoRow, standIns := [], harness := (true, "05128834e9706628839b710431c63ece714b33c913076a224a2057ef2449d0f3"), looks := true }, kinds := [], alts := [], laidByText := true, laidKinds := [.data, .data, .data, .data, .handle, .sentinel, .sentinel, .listed, .sentinel, .pinned], laidTests := true, laidLooks := .later }
def FnLexFormsUptoCardSaid : Prop := Claim7.holds Tryz.pinned (.plain (OpenSpec.upto fnLexFormsSpec)) fnLexFormsUptoCard

/-- THE SECOND FORM's CARD OF 'laws.FnLooseKeeps'. -/
def fnLooseKeepsUptoCard : Claim7 := { stood := { row := fnLooseKeepsUptoRow, standIns := [], harness := (true, "05128834e9706628839b710431c63ece714b33c913076a224a2057ef2449d0f3"), looks := true }, kinds := [], alts := [], laidByText := true, laidKinds := [.data, .data, .data, .data, .handle, .sentinel, .sentinel, .listed, .sentinel, .pinned], laidTests := true, laidLooks := .later }
def FnLooseKeepsUptoCardSaid : Prop := Claim7.holds Tryz.pinned (.plain (OpenSpec.upto fnLooseKeepsSpec)) fnLooseKeepsUptoCard

/-- THE SECOND FORM's CARD OF 'laws.FnNamesOfTokens'. -/
def fnNamesOfTokensUptoCard : Claim7 := { stood := { row := fnNamesOfTokensUptoRow, standIns := [], harness := (true, "05128834e9706628839b710431c63ece714b33c913076a224a2057ef2449d0f3"), looks := true }, kinds := [], alts := [], laidByText := true, laidKinds := [.data, .data, .data, .data, .handle, .sentinel, .sentinel, .listed, .sentinel, .pinned], laidTests := true, laidLooks := .later }
def FnNamesOfTokensUptoCardSaid : Prop := Claim7.holds Tryz.pinned (.plain (OpenSpec.upto fnNamesOfTokensSpec)) fnNamesOfTokensUptoCard

/-- THE SECOND FORM's CARD OF 'laws.FnSplitOnce'. -/
def fnSplitOnceUptoCard : Claim7 := { stood := { row := fnSplitOnceUptoRow, standIns := [], harness := (true, "05128834e9706628839b710431c63ece714b33c913076a224a2057ef2449d0f3"), looks := true }, kinds := [], alts := [], laidByText := true, laidKinds := [.data, .data, .data, .data, .handle, .sentinel, .sentinel, .listed, .sentinel, .pinned], laidTests := true, laidLooks := .later }
def FnSplitOnceUptoCardSaid : Prop := Claim7.holds Tryz.pinned (.plain (OpenSpec.upto fnSplitOnceSpec)) fnSplitOnceUptoCard
end Rows
end Go.Proofs.YtaamolahbkgofaaGreatDoor
