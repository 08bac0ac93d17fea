/-
  NARROWER THAN 'FOR EVERY INPUT', by the rows' own cells (each row's printed sentence says how): LawS1415BAnswer: ifaces, laid · LawS1415BCloser: ifaces, laid.
  DERIVED. THE GIVEN ROWS OF THIS SEAT. 2 by the template 'for every input the law returns true; each argument reads behind the call as it read before'; 0 by the template 'total and deterministic' (their statements: YbulkacgyFmtTotals.lean).
  GIVEN WITH THE SEED: the statements are not yours to turn. If you find one false, say at which input.
  Laid BY PROGRAM, IN A SANDBOX (cutbox-rows.mjs): the forced cells as the released guide's own fill.sh prints them over the translation 58e2f303944ae2a3… (all of the seat's roots in one cut). By AI agents, Wed Nov 11 2026. No macro, syntax, notation, axiom, sorry.
-/
import Derived.Test.YbulkacgyFmtChecked
import GoSem.Claim
import GoSem.ClaimJoined
import GoSem.ClaimMapViews
import Derived.JoinedTies
import Derived.KernelRfl
namespace Go.Proofs.YbulkacgyFmt
/- THE CELL 'sum', in the pinned program and in every row, IS THE sha256 OF THE DUMP (.gsa) THAT YbulkacgyFmtProg.lean LOADS. Nothing in Lean hashes anything: it is a label: what it is worth is what the hold of that sum in a sandbox is worth. -/
noncomputable def Ybaf.pinned : Pinned := { name := "ybulkacgyfmt", sum := "58e2f303944ae2a331ea2f3bcbe6994d1891c82e721099e8592dc681416205a1", checked := Ybaf.checked }
namespace Rows
def none {H : Type} : Left H := { results := [], args := [] }

/- WHAT THE LISTED PACKAGE-LEVEL VARIABLES READ AS WHEN THE CALL BEGINS. Each datum BY PROGRAM (the guide's laid-datum.mjs) off the statement by which the dump's own 'gosem.cut.vars' lays the variable. In a bare row this is a premise. The card (YbulkacgyFmtCards.lean) ties it to the program's text. -/
def laid_example_com_swarmline_swarmline_bencode_ErrSyntax {H : Type} : DataW H := .iface "*errors.errorString" (.ptr (.agg [.lit (.string [105, 110, 118, 97, 108, 105, 100, 32, 98, 101, 110, 99, 111, 100, 105, 110, 103])]))

/-- 'bencode.LawS1415BAnswer': WHATEVER THE INPUT: true; the input reads as it did. -/
def lawS1415BAnswerSpec : ChangeSpec := { name := "lawS1415BAnswer", vars := ["example.com/swarmline/swarmline/bencode.ErrSyntax"], fn := fun _ => fun
  | [d1, d2, d3, g1] => { results := [.lit (.bool true)], args := [d1, d2, d3], vars := [g1] }
  | _ => none }
def lawS1415BAnswerRow : OpenClaim := { program := "ybulkacgyfmt", sum := "58e2f303944ae2a331ea2f3bcbe6994d1891c82e721099e8592dc681416205a1", func := "example.com/swarmline/swarmline/bencode.LawS1415BAnswer", spec := "lawS1415BAnswer", stops := ["fmt.errorf"], inPlace := ["fmt.errorf", "internal/reflectlite.TypeOf"], unfollowed := true, recurses := true, named := ["example.com/swarmline/swarmline/bencode.ErrSyntax"], ifaces := true, apart := false, laid := [("example.com/swarmline/swarmline/bencode.ErrSyntax", laid_example_com_swarmline_swarmline_bencode_ErrSyntax)] }
/-- NO THEOREM (fmt's text is open here; it may be false): for the released tool's asking of the row's closed facts alone. THE STATEMENT IS 'LawS1415BAnswerToldSaid' (YbulkacgyFmtCards.lean). -/
def LawS1415BAnswerFormAsk : Prop := lawS1415BAnswerRow.holds Ybaf.pinned (OpenSpec.ofChange lawS1415BAnswerSpec)

/-- ITS FALSE NEIGHBOUR: 'it returns false'. Refute it at one input. -/
def lawS1415BAnswerWrong : ChangeSpec := { name := "lawS1415BAnswer", vars := ["example.com/swarmline/swarmline/bencode.ErrSyntax"], fn := fun _ => fun
  | [d1, d2, d3, g1] => { results := [.lit (.bool false)], args := [d1, d2, d3], vars := [g1] }
  | _ => none }
def LawS1415BAnswerWrongFormAsk : Prop := lawS1415BAnswerRow.holds Ybaf.pinned (OpenSpec.ofChange lawS1415BAnswerWrong)

/-- 'bencode.LawS1415BCloser': WHATEVER THE INPUT: true; the input reads as it did. -/
def lawS1415BCloserSpec : ChangeSpec := { name := "lawS1415BCloser", vars := ["example.com/swarmline/swarmline/bencode.ErrSyntax"], fn := fun _ => fun
  | [d, g1] => { results := [.lit (.bool true)], args := [d], vars := [g1] }
  | _ => none }
def lawS1415BCloserRow : OpenClaim := { program := "ybulkacgyfmt", sum := "58e2f303944ae2a331ea2f3bcbe6994d1891c82e721099e8592dc681416205a1", func := "example.com/swarmline/swarmline/bencode.LawS1415BCloser", spec := "lawS1415BCloser", stops := ["fmt.errorf"], inPlace := ["fmt.errorf", "internal/reflectlite.TypeOf"], unfollowed := true, recurses := true, named := ["example.com/swarmline/swarmline/bencode.ErrSyntax"], ifaces := true, apart := false, laid := [("example.com/swarmline/swarmline/bencode.ErrSyntax", laid_example_com_swarmline_swarmline_bencode_ErrSyntax)] }
/-- NO THEOREM (fmt's text is open here; it may be false): for the released tool's asking of the row's closed facts alone. THE STATEMENT IS 'LawS1415BCloserToldSaid' (YbulkacgyFmtCards.lean). -/
def LawS1415BCloserFormAsk : Prop := lawS1415BCloserRow.holds Ybaf.pinned (OpenSpec.ofChange lawS1415BCloserSpec)

/-- ITS FALSE NEIGHBOUR: 'it returns false'. Refute it at one input. -/
def lawS1415BCloserWrong : ChangeSpec := { name := "lawS1415BCloser", vars := ["example.com/swarmline/swarmline/bencode.ErrSyntax"], fn := fun _ => fun
  | [d, g1] => { results := [.lit (.bool false)], args := [d], vars := [g1] }
  | _ => none }
def LawS1415BCloserWrongFormAsk : Prop := lawS1415BCloserRow.holds Ybaf.pinned (OpenSpec.ofChange lawS1415BCloserWrong)

end Rows
end Go.Proofs.YbulkacgyFmt
