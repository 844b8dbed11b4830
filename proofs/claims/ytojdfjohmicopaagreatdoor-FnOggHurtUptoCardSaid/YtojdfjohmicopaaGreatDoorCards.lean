/-
  DERIVED. GIVEN WITH THE SEED: THE CARDS: each row of YtojdfjohmicopaaGreatDoorRows.lean that lists a variable, with what it lists TIED to the program's text (the seventh form; the later family's looks); each row that meets fmt, with fmt's text TOLD by the authors' own Lean function (tested against real Go, not proved from fmt's source: count such statements apart). THE CARD IS WHAT COUNTS. Prove the row's statement (the work); the ties are given (YtojdfjohmicopaaGreatDoorTie.lean); close each card by the builder's one call (the guide's Derived/Test/ToyasCard.lean, 'card_holds'). Laid BY PROGRAM, IN A SANDBOX (cutbox-door.mjs). By AI agents, Wed Nov 11 2026. No macro, syntax, notation, axiom, sorry.
-/
import Derived.Test.YtojdfjohmicopaaGreatDoorRows
import GoSem.ClaimSeven
namespace Go.Proofs.YtojdfjohmicopaaGreatDoor
namespace Rows

/-- THE TIED CARD OF 'laws.FnOggHurt'. -/
def fnOggHurtCard : Claim7 := { stood := { row := fnOggHurtRow, standIns := [], harness := (true, "12293fdf96f9b690e63ab29aac76610651c3dc3e10f37f1d419e01bee80c4fa4"), looks := true }, kinds := [], alts := [], laidByText := true, laidKinds := [.data, .data, .data, .sentinel, .sentinel, .sentinel, .sentinel, .sentinel, .sentinel, .sentinel, .sentinel, .sentinel, .sentinel], laidTests := true, laidLooks := .later }
def FnOggHurtCardSaid : Prop := Claim7.holds Tryz.pinned (.plain (OpenSpec.ofChange fnOggHurtSpec)) fnOggHurtCard

/-- THE SECOND FORM's CARD OF 'laws.FnOggHurt'. -/
def fnOggHurtUptoCard : Claim7 := { stood := { row := fnOggHurtUptoRow, standIns := [], harness := (true, "12293fdf96f9b690e63ab29aac76610651c3dc3e10f37f1d419e01bee80c4fa4"), looks := true }, kinds := [], alts := [], laidByText := true, laidKinds := [.data, .data, .data, .sentinel, .sentinel, .sentinel, .sentinel, .sentinel, .sentinel, .sentinel, .sentinel, .sentinel, .sentinel], laidTests := true, laidLooks := .later }
def FnOggHurtUptoCardSaid : Prop := Claim7.holds Tryz.pinned (.plain (OpenSpec.upto fnOggHurtSpec)) fnOggHurtUptoCard
end Rows
end Go.Proofs.YtojdfjohmicopaaGreatDoor
