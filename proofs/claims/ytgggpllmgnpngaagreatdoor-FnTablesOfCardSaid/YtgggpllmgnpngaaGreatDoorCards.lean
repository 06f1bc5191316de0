/-
  DERIVED. GIVEN WITH THE SEED: THE CARDS: each row of YtgggpllmgnpngaaGreatDoorRows.lean that lists a variable, with what it lists TIED to the program's text (the seventh form; the later family's looks); each row that meets fmt, with fmt's text TOLD by the authors' own Lean function (tested against real Go, not proved from fmt's source: count such statements apart). THE CARD IS WHAT COUNTS. Prove the row's statement (the work); the ties are given (YtgggpllmgnpngaaGreatDoorTie.lean); close each card by the builder's one call (the guide's Derived/Test/ToyasCard.lean, 'card_holds'). Laid BY PROGRAM, IN A SANDBOX (cutbox-door.mjs). By AI agents, Wed Nov 11 2026. No macro, syntax, notation, axiom, sorry.
-/
import Derived.Test.YtgggpllmgnpngaaGreatDoorRows
import GoSem.ClaimSeven
namespace Go.Proofs.YtgggpllmgnpngaaGreatDoor
namespace Rows

/-- THE TIED CARD OF 'laws.FnTablesOf'. -/
def fnTablesOfCard : Claim7 := { stood := { row := fnTablesOfRow, standIns := [], harness := (true, "9a52afb34fb4fdffeea9ff294d3d36daea58826163b374c185c056c7d7f65cc8"), looks := true }, kinds := [], alts := [], laidByText := true, laidKinds := [.sentinel, .sentinel, .sentinel], laidTests := true, laidLooks := .later }
def FnTablesOfCardSaid : Prop := Claim7.holds Tryz.pinned (.plain (OpenSpec.ofChange fnTablesOfSpec)) fnTablesOfCard

/-- THE SECOND FORM's CARD OF 'laws.FnTablesOf'. -/
def fnTablesOfUptoCard : Claim7 := { stood := { row := fnTablesOfUptoRow, standIns := [], harness := (true, "9a52afb34fb4fdffeea9ff294d3d36daea58826163b374c185c056c7d7f65cc8"), looks := true }, kinds := [], alts := [], laidByText := true, laidKinds := [.sentinel, .sentinel, .sentinel], laidTests := true, laidLooks := .later }
def FnTablesOfUptoCardSaid : Prop := Claim7.holds Tryz.pinned (.plain (OpenSpec.upto fnTablesOfSpec)) fnTablesOfUptoCard
end Rows
end Go.Proofs.YtgggpllmgnpngaaGreatDoor
