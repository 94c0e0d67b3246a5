/-
  No cell of these rows narrows 'for every input' (looked for: loops, veiled, ifaces, maps, wideKeys, modest, calm, conditions, laid).
  DERIVED. THE GIVEN ROWS OF THIS SEAT. 2 by the template 'for every input the law returns true; each argument reads behind the call as it read before'; 0 by the template 'total and deterministic' (their statements: YbulkdpnkTotals.lean).
  GIVEN WITH THE SEED: the statements are not yours to turn. If you find one false, say at which input.
  Laid BY PROGRAM, IN A SANDBOX (cutbox-rows.mjs): the forced cells as the released guide's own fill.sh prints them over the translation ecc5c331de3f7f93… (all of the seat's roots in one cut). By AI agents, Wed Nov 11 2026. No macro, syntax, notation, axiom, sorry.
-/
import Derived.Test.YbulkdpnkChecked
import GoSem.Claim
import GoSem.ClaimJoined
import GoSem.ClaimMapViews
import Derived.JoinedTies
import Derived.KernelRfl
namespace Go.Proofs.Ybulkdpnk
/- THE CELL 'sum', in the pinned program and in every row, IS THE sha256 OF THE DUMP (.gsa) THAT YbulkdpnkProg.lean LOADS. Nothing in Lean hashes anything: it is a label: what it is worth is what the hold of that sum in a sandbox is worth. -/
noncomputable def Yba.pinned : Pinned := { name := "ybulkdpnk", sum := "ecc5c331de3f7f936a7babebc078f083a350bf13fbf2126d1644aab58f4dd664", checked := Yba.checked }
namespace Rows
def none {H : Type} : Left H := { results := [], args := [] }

/-- 'ticketwait.LawS5821BWhole': WHATEVER THE INPUT: true; the input reads as it did. -/
def lawS5821BWholeSpec : ChangeSpec := { name := "lawS5821BWhole", fn := fun _ => fun
  | [d1, d2, d3, d4] => { results := [.lit (.bool true)], args := [d1, d2, d3, d4] }
  | _ => none }
def lawS5821BWholeRow : OpenClaim := { program := "ybulkdpnk", sum := "ecc5c331de3f7f936a7babebc078f083a350bf13fbf2126d1644aab58f4dd664", func := "example.com/ticketwait/ticketwait.LawS5821BWhole", spec := "lawS5821BWhole", inPlace := ["sync/atomic.StoreUint64", "sync/atomic.StorePointer", "sync/atomic.LoadUint64", "sync/atomic.CompareAndSwapUint64", "sync/atomic.LoadPointer"], apart := false }
def LawS5821BWholeSaid : Prop := lawS5821BWholeRow.holds Yba.pinned (OpenSpec.ofChange lawS5821BWholeSpec)

/-- ITS FALSE NEIGHBOUR: 'it returns false'. Refute it at one input. -/
def lawS5821BWholeWrong : ChangeSpec := { name := "lawS5821BWhole", fn := fun _ => fun
  | [d1, d2, d3, d4] => { results := [.lit (.bool false)], args := [d1, d2, d3, d4] }
  | _ => none }
def LawS5821BWholeWrongFalsely : Prop := lawS5821BWholeRow.holds Yba.pinned (OpenSpec.ofChange lawS5821BWholeWrong)

/-- 'ticketwait.LawS5821CWhole': WHATEVER THE INPUT: true; the input reads as it did. -/
def lawS5821CWholeSpec : ChangeSpec := { name := "lawS5821CWhole", fn := fun _ => fun
  | [d1, d2, d3, d4, d5, d6] => { results := [.lit (.bool true)], args := [d1, d2, d3, d4, d5, d6] }
  | _ => none }
def lawS5821CWholeRow : OpenClaim := { program := "ybulkdpnk", sum := "ecc5c331de3f7f936a7babebc078f083a350bf13fbf2126d1644aab58f4dd664", func := "example.com/ticketwait/ticketwait.LawS5821CWhole", spec := "lawS5821CWhole", inPlace := ["slices.overlaps[example.com/ticketwait/ticketwait.ticketRun]"], unfollowed := true, recurses := true, apart := false }
def LawS5821CWholeSaid : Prop := lawS5821CWholeRow.holds Yba.pinned (OpenSpec.ofChange lawS5821CWholeSpec)

/-- ITS FALSE NEIGHBOUR: 'it returns false'. Refute it at one input. -/
def lawS5821CWholeWrong : ChangeSpec := { name := "lawS5821CWhole", fn := fun _ => fun
  | [d1, d2, d3, d4, d5, d6] => { results := [.lit (.bool false)], args := [d1, d2, d3, d4, d5, d6] }
  | _ => none }
def LawS5821CWholeWrongFalsely : Prop := lawS5821CWholeRow.holds Yba.pinned (OpenSpec.ofChange lawS5821CWholeWrong)

end Rows
end Go.Proofs.Ybulkdpnk
