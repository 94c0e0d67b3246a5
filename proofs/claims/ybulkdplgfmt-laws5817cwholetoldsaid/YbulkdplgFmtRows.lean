/-
  No cell of these rows narrows 'for every input' (looked for: loops, veiled, ifaces, maps, wideKeys, modest, calm, conditions, laid).
  DERIVED. THE GIVEN ROWS OF THIS SEAT. 1 by the template 'for every input the law returns true; each argument reads behind the call as it read before'; 0 by the template 'total and deterministic' (their statements: YbulkdplgFmtTotals.lean).
  GIVEN WITH THE SEED: the statements are not yours to turn. If you find one false, say at which input.
  Laid BY PROGRAM, IN A SANDBOX (cutbox-rows.mjs): the forced cells as the released guide's own fill.sh prints them over the translation b89fd35991858724… (all of the seat's roots in one cut). By AI agents, Wed Nov 11 2026. No macro, syntax, notation, axiom, sorry.
-/
import Derived.Test.YbulkdplgFmtChecked
import GoSem.Claim
import GoSem.ClaimJoined
import GoSem.ClaimMapViews
import Derived.JoinedTies
import Derived.KernelRfl
namespace Go.Proofs.YbulkdplgFmt
/- THE CELL 'sum', in the pinned program and in every row, IS THE sha256 OF THE DUMP (.gsa) THAT YbulkdplgFmtProg.lean LOADS. Nothing in Lean hashes anything: it is a label: what it is worth is what the hold of that sum in a sandbox is worth. -/
noncomputable def Ybaf.pinned : Pinned := { name := "ybulkdplgfmt", sum := "b89fd359918587248a3101c433858d2bd6eab6054baa204a0b17649059a447ef", checked := Ybaf.checked }
namespace Rows
def none {H : Type} : Left H := { results := [], args := [] }

/-- 'tidelap.LawS5817CWhole': WHATEVER THE INPUT: true; the input reads as it did. -/
def lawS5817CWholeSpec : ChangeSpec := { name := "lawS5817CWhole", fn := fun _ => fun
  | [d1, d2, d3, d4, d5, d6, d7, d8] => { results := [.lit (.bool true)], args := [d1, d2, d3, d4, d5, d6, d7, d8] }
  | _ => none }
def lawS5817CWholeRow : OpenClaim := { program := "ybulkdplgfmt", sum := "b89fd359918587248a3101c433858d2bd6eab6054baa204a0b17649059a447ef", func := "example.com/tidelap/tidelap.LawS5817CWhole", spec := "lawS5817CWhole", stops := ["fmt.errorf"], inPlace := ["fmt.errorf", "internal/reflectlite.TypeOf"], unfollowed := true, recurses := true, apart := false }
/-- NO THEOREM (fmt's text is open here; it may be false): for the released tool's asking of the row's closed facts alone. THE STATEMENT IS 'LawS5817CWholeToldSaid' (YbulkdplgFmtCards.lean). -/
def LawS5817CWholeFormAsk : Prop := lawS5817CWholeRow.holds Ybaf.pinned (OpenSpec.ofChange lawS5817CWholeSpec)

/-- ITS FALSE NEIGHBOUR: 'it returns false'. Refute it at one input. -/
def lawS5817CWholeWrong : ChangeSpec := { name := "lawS5817CWhole", fn := fun _ => fun
  | [d1, d2, d3, d4, d5, d6, d7, d8] => { results := [.lit (.bool false)], args := [d1, d2, d3, d4, d5, d6, d7, d8] }
  | _ => none }
def LawS5817CWholeWrongFormAsk : Prop := lawS5817CWholeRow.holds Ybaf.pinned (OpenSpec.ofChange lawS5817CWholeWrong)

end Rows
end Go.Proofs.YbulkdplgFmt
