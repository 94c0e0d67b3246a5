/-
  DERIVED. GIVEN WITH THE SEED: THE CARDS: each row of YbulkdpluDoorRows.lean that lists a variable, with what it lists TIED to the program's text (the seventh form; the later family's looks); each row that meets fmt, with fmt's text TOLD by the authors' own Lean function (tested against real Go, not proved from fmt's source: count such statements apart). THE CARD IS WHAT COUNTS. Prove the row's statement (the work); the ties are given (YbulkdpluDoorTie.lean); close each card by the builder's one call (the guide's Derived/Test/ToyasCard.lean, 'card_holds'). Laid BY PROGRAM, IN A SANDBOX (cutbox-door.mjs). By AI agents, Wed Nov 11 2026. No macro, syntax, notation, axiom, sorry.
-/
import Derived.Test.YbulkdpluDoorRows
import GoSem.ClaimSeven
namespace Go.Proofs.YbulkdpluDoor
namespace Rows

/-- THE TIED CARD OF 'dns.LawS5818BWhole'. -/
def lawS5818BWholeCard : Claim7 := { stood := { row := lawS5818BWholeRow, standIns := [], harness := (true, "ac0e60c7cf94a3a63bb56179ebedb5f626b486549784f0242639566a6e3778e3"), looks := false }, kinds := [], alts := [], laidByText := true, laidKinds := [.data, .data, .data], laidTests := true, laidLooks := .later }
def LawS5818BWholeCardSaid : Prop := Claim7.holds Ybad.pinned (.plain (OpenSpec.ofChange lawS5818BWholeSpec)) lawS5818BWholeCard
end Rows
end Go.Proofs.YbulkdpluDoor
