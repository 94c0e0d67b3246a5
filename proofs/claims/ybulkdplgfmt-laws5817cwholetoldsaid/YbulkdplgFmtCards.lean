/-
  DERIVED. GIVEN WITH THE SEED: THE CARDS: each row of YbulkdplgFmtRows.lean that lists a variable, with what it lists TIED to the program's text (the seventh form; the later family's looks); each row that meets fmt, with fmt's text TOLD by the authors' own Lean function (tested against real Go, not proved from fmt's source: count such statements apart). THE CARD IS WHAT COUNTS. Prove the row's statement (the work); the ties are given (YbulkdplgFmtTie.lean); close each card by the builder's one call (the guide's Derived/Test/ToyasCard.lean, 'card_holds'). Laid BY PROGRAM, IN A SANDBOX (cutbox-door.mjs). By AI agents, Wed Nov 11 2026. No macro, syntax, notation, axiom, sorry.
-/
import Derived.Test.YbulkdplgFmtRows
import GoSem.ClaimSeven
namespace Go.Proofs.YbulkdplgFmt
namespace Rows

/-- THE TOLD CARD OF 'tidelap.LawS5817CWhole'. -/
def lawS5817CWholeCard : Claim7 := { stood := { row := lawS5817CWholeRow, standIns := [], harness := (true, "e8124e92487724eec52460ebd5819c2b4f804a056b52c867f7181eee4d465198"), looks := true }, told := true, goes := false }
def LawS5817CWholeToldSaid : Prop := Claim7.holds Ybaf.pinned (.plain (OpenSpec.ofChange lawS5817CWholeSpec)) lawS5817CWholeCard
/-- ITS FALSE NEIGHBOUR. Refute it at one input. -/
def LawS5817CWholeToldWrongFalsely : Prop := Claim7.holds Ybaf.pinned (.plain (OpenSpec.ofChange lawS5817CWholeWrong)) lawS5817CWholeCard
end Rows
end Go.Proofs.YbulkdplgFmt
