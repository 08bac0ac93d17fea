/-
  No cell of these rows narrows 'for every input' (looked for: loops, veiled, ifaces, maps, wideKeys, modest, calm, conditions, laid).
  DERIVED. THE GIVEN ROWS OF THIS SEAT. 4 by the template 'for every input the law returns true; each argument reads behind the call as it read before'; 0 by the template 'total and deterministic' (their statements: YbulkacfiTotals.lean).
  GIVEN WITH THE SEED: the statements are not yours to turn. If you find one false, say at which input.
  Laid BY PROGRAM, IN A SANDBOX (cutbox-rows.mjs): the forced cells as the released guide's own fill.sh prints them over the translation b6bb30db794e4f90… (all of the seat's roots in one cut). By AI agents, Wed Nov 11 2026. No macro, syntax, notation, axiom, sorry.
-/
import Derived.Test.YbulkacfiChecked
import GoSem.Claim
import GoSem.ClaimJoined
import GoSem.ClaimMapViews
import Derived.JoinedTies
import Derived.KernelRfl
namespace Go.Proofs.Ybulkacfi
/- THE CELL 'sum', in the pinned program and in every row, IS THE sha256 OF THE DUMP (.gsa) THAT YbulkacfiProg.lean LOADS. Nothing in Lean hashes anything: it is a label: what it is worth is what the hold of that sum in a sandbox is worth. -/
noncomputable def Yba.pinned : Pinned := { name := "ybulkacfi", sum := "b6bb30db794e4f900465d67bcd27a788b179680a5a6c7d7f1ecc34bddaf8a392", checked := Yba.checked }
namespace Rows
def none {H : Type} : Left H := { results := [], args := [] }

/-- 'group.LawS1412AExact': WHATEVER THE INPUT: true; the input reads as it did. -/
def lawS1412AExactSpec : ChangeSpec := { name := "lawS1412AExact", fn := fun _ => fun
  | [d] => { results := [.lit (.bool true)], args := [d] }
  | _ => none }
def lawS1412AExactRow : OpenClaim := { program := "ybulkacfi", sum := "b6bb30db794e4f900465d67bcd27a788b179680a5a6c7d7f1ecc34bddaf8a392", func := "example.com/ringleader/ringleader/internal/group.LawS1412AExact", spec := "lawS1412AExact", apart := false }
def LawS1412AExactSaid : Prop := lawS1412AExactRow.holds Yba.pinned (OpenSpec.ofChange lawS1412AExactSpec)

/-- ITS FALSE NEIGHBOUR: 'it returns false'. Refute it at one input. -/
def lawS1412AExactWrong : ChangeSpec := { name := "lawS1412AExact", fn := fun _ => fun
  | [d] => { results := [.lit (.bool false)], args := [d] }
  | _ => none }
def LawS1412AExactWrongFalsely : Prop := lawS1412AExactRow.holds Yba.pinned (OpenSpec.ofChange lawS1412AExactWrong)

/-- 'group.LawS1412AGrow': WHATEVER THE INPUT: true; the input reads as it did. -/
def lawS1412AGrowSpec : ChangeSpec := { name := "lawS1412AGrow", fn := fun _ => fun
  | [d] => { results := [.lit (.bool true)], args := [d] }
  | _ => none }
def lawS1412AGrowRow : OpenClaim := { program := "ybulkacfi", sum := "b6bb30db794e4f900465d67bcd27a788b179680a5a6c7d7f1ecc34bddaf8a392", func := "example.com/ringleader/ringleader/internal/group.LawS1412AGrow", spec := "lawS1412AGrow", apart := false }
def LawS1412AGrowSaid : Prop := lawS1412AGrowRow.holds Yba.pinned (OpenSpec.ofChange lawS1412AGrowSpec)

/-- ITS FALSE NEIGHBOUR: 'it returns false'. Refute it at one input. -/
def lawS1412AGrowWrong : ChangeSpec := { name := "lawS1412AGrow", fn := fun _ => fun
  | [d] => { results := [.lit (.bool false)], args := [d] }
  | _ => none }
def LawS1412AGrowWrongFalsely : Prop := lawS1412AGrowRow.holds Yba.pinned (OpenSpec.ofChange lawS1412AGrowWrong)

/-- 'election.LawS1412CModel': WHATEVER THE INPUT: true; the input reads as it did. -/
def lawS1412CModelSpec : ChangeSpec := { name := "lawS1412CModel", fn := fun _ => fun
  | [d1, d2, d3, d4, d5, d6, d7, d8, d9, d10] => { results := [.lit (.bool true)], args := [d1, d2, d3, d4, d5, d6, d7, d8, d9, d10] }
  | _ => none }
def lawS1412CModelRow : OpenClaim := { program := "ybulkacfi", sum := "b6bb30db794e4f900465d67bcd27a788b179680a5a6c7d7f1ecc34bddaf8a392", func := "example.com/ringleader/ringleader/internal/election.LawS1412CModel", spec := "lawS1412CModel", unfollowed := true, recurses := true, apart := false }
def LawS1412CModelSaid : Prop := lawS1412CModelRow.holds Yba.pinned (OpenSpec.ofChange lawS1412CModelSpec)

/-- ITS FALSE NEIGHBOUR: 'it returns false'. Refute it at one input. -/
def lawS1412CModelWrong : ChangeSpec := { name := "lawS1412CModel", fn := fun _ => fun
  | [d1, d2, d3, d4, d5, d6, d7, d8, d9, d10] => { results := [.lit (.bool false)], args := [d1, d2, d3, d4, d5, d6, d7, d8, d9, d10] }
  | _ => none }
def LawS1412CModelWrongFalsely : Prop := lawS1412CModelRow.holds Yba.pinned (OpenSpec.ofChange lawS1412CModelWrong)

/-- 'election.LawS1412CLeaderOrder': WHATEVER THE INPUT: true; the input reads as it did. -/
def lawS1412CLeaderOrderSpec : ChangeSpec := { name := "lawS1412CLeaderOrder", fn := fun _ => fun
  | [d1, d2, d3, d4, d5, d6] => { results := [.lit (.bool true)], args := [d1, d2, d3, d4, d5, d6] }
  | _ => none }
def lawS1412CLeaderOrderRow : OpenClaim := { program := "ybulkacfi", sum := "b6bb30db794e4f900465d67bcd27a788b179680a5a6c7d7f1ecc34bddaf8a392", func := "example.com/ringleader/ringleader/internal/election.LawS1412CLeaderOrder", spec := "lawS1412CLeaderOrder", unfollowed := true, recurses := true, apart := false }
def LawS1412CLeaderOrderSaid : Prop := lawS1412CLeaderOrderRow.holds Yba.pinned (OpenSpec.ofChange lawS1412CLeaderOrderSpec)

/-- ITS FALSE NEIGHBOUR: 'it returns false'. Refute it at one input. -/
def lawS1412CLeaderOrderWrong : ChangeSpec := { name := "lawS1412CLeaderOrder", fn := fun _ => fun
  | [d1, d2, d3, d4, d5, d6] => { results := [.lit (.bool false)], args := [d1, d2, d3, d4, d5, d6] }
  | _ => none }
def LawS1412CLeaderOrderWrongFalsely : Prop := lawS1412CLeaderOrderRow.holds Yba.pinned (OpenSpec.ofChange lawS1412CLeaderOrderWrong)

end Rows
end Go.Proofs.Ybulkacfi
