/-
  DERIVED. GIVEN WITH THE SEED: THE CARDS: each row of YtngljoplalihkaaGreatDoorRows.lean that lists a variable, with what it lists TIED to the program's text (the seventh form; the later family's looks); each row that meets fmt, with fmt's text TOLD by the authors' own Lean function (tested against real Go, not proved from fmt's source: count such statements apart). THE CARD IS WHAT COUNTS. Prove the row's statement (the work); the ties are given (YtngljoplalihkaaGreatDoorTie.lean); close each card by the builder's one call (the guide's Derived/Test/ToyasCard.lean, 'card_holds'). Laid BY PROGRAM, IN A SANDBOX (cutbox-door.mjs). By AI agents, Wed Nov 11 2026. No macro, syntax, notation, axiom, sorry.
-/
import Derived.Test.YtngljoplalihkaaGreatDoorRows
import GoSem.ClaimSeven
namespace Go.Proofs.YtngljoplalihkaaGreatDoor
namespace Rows

/-- THE TIED CARD OF 'laws.FnTables'. -/
def fnTablesCard : Claim7 := { stood := { row := fnTablesRow, standIns := [], harness := (true, "d21ac84e2c091f0c9f4189290bb0a05e0e479ec510b7cae3b2aa94df3663d42a"), looks := false }, kinds := [], alts := [], laidByText := true, laidKinds := [.data, .data, .data, .data], laidTests := true, laidLooks := .later }
def FnTablesCardSaid : Prop := Claim7.holds Tryz.pinned (.plain (OpenSpec.ofChange fnTablesSpec)) fnTablesCard

/-- THE SECOND FORM's CARD OF 'laws.FnTables'. -/
def fnTablesUptoCard : Claim7 := { stood := { row := fnTablesUptoRow, standIns := [], harness := (true, "d21ac84e2c091f0c9f4189290bb0a05e0e479ec510b7cae3b2aa94df3663d42a"), looks := false }, kinds := [], alts := [], laidByText := true, laidKinds := [.data, .data, .data, .data], laidTests := true, laidLooks := .later }
def FnTablesUptoCardSaid : Prop := Claim7.holds Tryz.pinned (.plain (OpenSpec.upto fnTablesSpec)) fnTablesUptoCard
end Rows
end Go.Proofs.YtngljoplalihkaaGreatDoor
