/-
  DERIVED. GIVEN WITH THE SEED: THE CARDS: each row of YtkcpfgnfhbbhhaaDoorRows.lean that lists a variable, with what it lists TIED to the program's text (the seventh form; the later family's looks); each row that meets fmt, with fmt's text TOLD by the authors' own Lean function (tested against real Go, not proved from fmt's source: count such statements apart). THE CARD IS WHAT COUNTS. Prove the row's statement (the work); the ties are given (YtkcpfgnfhbbhhaaDoorTie.lean); close each card by the builder's one call (the guide's Derived/Test/ToyasCard.lean, 'card_holds'). Laid BY PROGRAM, IN A SANDBOX (cutbox-door.mjs). By AI agents, Wed Nov 11 2026. No macro, syntax, notation, axiom, sorry.
-/
import Derived.Test.YtkcpfgnfhbbhhaaDoorRows
import GoSem.ClaimSeven
namespace Go.Proofs.YtkcpfgnfhbbhhaaDoor
namespace Rows

/-- THE TIED CARD OF 'laws.FnPosRead'. -/
def fnPosReadCard : Claim7 := { stood := { row := fnPosReadRow, standIns := [], harness := (true, "5a77670e6687f074ecc73b49c8eecc9ed8c69d361dd62f4dde2529fc6988ab5d"), looks := true }, kinds := [], alts := [], laidByText := true, laidKinds := [.data, .data, .data, .sentinel, .sentinel, .listed, .data, .pinned, .pinned], laidTests := true, laidLooks := .later }
def FnPosReadCardSaid : Prop := Claim7.holds Tryd.pinned (.plain (OpenSpec.ofChange fnPosReadSpec)) fnPosReadCard

/-- THE SECOND FORM's CARD OF 'laws.FnPosRead'. -/
def fnPosReadUptoCard : Claim7 := { stood := { row := fnPosReadUptoRow, standIns := [], harness := (true, "5a77670e6687f074ecc73b49c8eecc9ed8c69d361dd62f4dde2529fc6988ab5d"), looks := true }, kinds := [], alts := [], laidByText := true, laidKinds := [.data, .data, .data, .sentinel, .sentinel, .listed, .data, .pinned, .pinned], laidTests := true, laidLooks := .later }
def FnPosReadUptoCardSaid : Prop := Claim7.holds Tryd.pinned (.plain (OpenSpec.upto fnPosReadSpec)) fnPosReadUptoCard
end Rows
end Go.Proofs.YtkcpfgnfhbbhhaaDoor
