/-
  No cell of these rows narrows 'for every input' (looked for: loops, veiled, ifaces, maps, wideKeys, modest, calm, conditions, laid).
  DERIVED. THE GIVEN ROWS OF THIS SEAT. 4 by the template 'for every input the law returns true; each argument reads behind the call as it read before'; 0 by the template 'total and deterministic' (their statements: YbulkacgkTotals.lean).
  GIVEN WITH THE SEED: the statements are not yours to turn. If you find one false, say at which input.
  Laid BY PROGRAM, IN A SANDBOX (cutbox-rows.mjs): the forced cells as the released guide's own fill.sh prints them over the translation 421bbdf66d829769… (all of the seat's roots in one cut). By AI agents, Wed Nov 11 2026. No macro, syntax, notation, axiom, sorry.
-/
import Derived.Test.YbulkacgkChecked
import GoSem.Claim
import GoSem.ClaimJoined
import GoSem.ClaimMapViews
import Derived.JoinedTies
import Derived.KernelRfl
namespace Go.Proofs.Ybulkacgk
/- THE CELL 'sum', in the pinned program and in every row, IS THE sha256 OF THE DUMP (.gsa) THAT YbulkacgkProg.lean LOADS. Nothing in Lean hashes anything: it is a label: what it is worth is what the hold of that sum in a sandbox is worth. -/
noncomputable def Yba.pinned : Pinned := { name := "ybulkacgk", sum := "421bbdf66d8297696101abba81fb742eade6fe0a2d8770113d261b8ac6105a32", checked := Yba.checked }
namespace Rows
def none {H : Type} : Left H := { results := [], args := [] }

/-- 'flagstone.LawS1414AModel': WHATEVER THE INPUT: true; the input reads as it did. -/
def lawS1414AModelSpec : ChangeSpec := { name := "lawS1414AModel", fn := fun _ => fun
  | [d1, d2] => { results := [.lit (.bool true)], args := [d1, d2] }
  | _ => none }
def lawS1414AModelRow : OpenClaim := { program := "ybulkacgk", sum := "421bbdf66d8297696101abba81fb742eade6fe0a2d8770113d261b8ac6105a32", func := "example.com/flagstone/flagstone.LawS1414AModel", spec := "lawS1414AModel", inPlace := ["internal/bytealg.IndexByteString"], apart := false }
def LawS1414AModelSaid : Prop := lawS1414AModelRow.holds Yba.pinned (OpenSpec.ofChange lawS1414AModelSpec)

/-- ITS FALSE NEIGHBOUR: 'it returns false'. Refute it at one input. -/
def lawS1414AModelWrong : ChangeSpec := { name := "lawS1414AModel", fn := fun _ => fun
  | [d1, d2] => { results := [.lit (.bool false)], args := [d1, d2] }
  | _ => none }
def LawS1414AModelWrongFalsely : Prop := lawS1414AModelRow.holds Yba.pinned (OpenSpec.ofChange lawS1414AModelWrong)

/-- 'flagstone.LawS1414AClean': WHATEVER THE INPUT: true; the input reads as it did. -/
def lawS1414ACleanSpec : ChangeSpec := { name := "lawS1414AClean", fn := fun _ => fun
  | [d] => { results := [.lit (.bool true)], args := [d] }
  | _ => none }
def lawS1414ACleanRow : OpenClaim := { program := "ybulkacgk", sum := "421bbdf66d8297696101abba81fb742eade6fe0a2d8770113d261b8ac6105a32", func := "example.com/flagstone/flagstone.LawS1414AClean", spec := "lawS1414AClean", inPlace := ["internal/bytealg.IndexByteString"], apart := false }
def LawS1414ACleanSaid : Prop := lawS1414ACleanRow.holds Yba.pinned (OpenSpec.ofChange lawS1414ACleanSpec)

/-- ITS FALSE NEIGHBOUR: 'it returns false'. Refute it at one input. -/
def lawS1414ACleanWrong : ChangeSpec := { name := "lawS1414AClean", fn := fun _ => fun
  | [d] => { results := [.lit (.bool false)], args := [d] }
  | _ => none }
def LawS1414ACleanWrongFalsely : Prop := lawS1414ACleanRow.holds Yba.pinned (OpenSpec.ofChange lawS1414ACleanWrong)

/-- 'flagstone.LawS1414CTable': WHATEVER THE INPUT: true; the input reads as it did. -/
def lawS1414CTableSpec : ChangeSpec := { name := "lawS1414CTable", fn := fun _ => fun
  | [d] => { results := [.lit (.bool true)], args := [d] }
  | _ => none }
def lawS1414CTableRow : OpenClaim := { program := "ybulkacgk", sum := "421bbdf66d8297696101abba81fb742eade6fe0a2d8770113d261b8ac6105a32", func := "example.com/flagstone/flagstone.LawS1414CTable", spec := "lawS1414CTable", apart := false }
def LawS1414CTableSaid : Prop := lawS1414CTableRow.holds Yba.pinned (OpenSpec.ofChange lawS1414CTableSpec)

/-- ITS FALSE NEIGHBOUR: 'it returns false'. Refute it at one input. -/
def lawS1414CTableWrong : ChangeSpec := { name := "lawS1414CTable", fn := fun _ => fun
  | [d] => { results := [.lit (.bool false)], args := [d] }
  | _ => none }
def LawS1414CTableWrongFalsely : Prop := lawS1414CTableRow.holds Yba.pinned (OpenSpec.ofChange lawS1414CTableWrong)

/-- 'flagstone.LawS1414CRoundTrip': WHATEVER THE INPUT: true; the input reads as it did. -/
def lawS1414CRoundTripSpec : ChangeSpec := { name := "lawS1414CRoundTrip", fn := fun _ => fun
  | [d1, d2] => { results := [.lit (.bool true)], args := [d1, d2] }
  | _ => none }
def lawS1414CRoundTripRow : OpenClaim := { program := "ybulkacgk", sum := "421bbdf66d8297696101abba81fb742eade6fe0a2d8770113d261b8ac6105a32", func := "example.com/flagstone/flagstone.LawS1414CRoundTrip", spec := "lawS1414CRoundTrip", apart := false }
def LawS1414CRoundTripSaid : Prop := lawS1414CRoundTripRow.holds Yba.pinned (OpenSpec.ofChange lawS1414CRoundTripSpec)

/-- ITS FALSE NEIGHBOUR: 'it returns false'. Refute it at one input. -/
def lawS1414CRoundTripWrong : ChangeSpec := { name := "lawS1414CRoundTrip", fn := fun _ => fun
  | [d1, d2] => { results := [.lit (.bool false)], args := [d1, d2] }
  | _ => none }
def LawS1414CRoundTripWrongFalsely : Prop := lawS1414CRoundTripRow.holds Yba.pinned (OpenSpec.ofChange lawS1414CRoundTripWrong)

end Rows
end Go.Proofs.Ybulkacgk
