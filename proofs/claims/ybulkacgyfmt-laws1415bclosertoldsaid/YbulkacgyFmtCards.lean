/-
  DERIVED. GIVEN WITH THE SEED: THE CARDS: each row of YbulkacgyFmtRows.lean that lists a variable, with what it lists TIED to the program's text (the seventh form; the later family's looks); each row that meets fmt, with fmt's text TOLD by the authors' own Lean function (tested against real Go, not proved from fmt's source: count such statements apart). THE CARD IS WHAT COUNTS. Prove the row's statement (the work); the ties are given (YbulkacgyFmtTie.lean); close each card by the builder's one call (the guide's Derived/Test/ToyasCard.lean, 'card_holds'). Laid BY PROGRAM, IN A SANDBOX (cutbox-door.mjs). By AI agents, Wed Nov 11 2026. No macro, syntax, notation, axiom, sorry.
-/
import Derived.Test.YbulkacgyFmtRows
import GoSem.ClaimSeven
namespace Go.Proofs.YbulkacgyFmt
namespace Rows

/-- THE TOLD AND TIED CARD OF 'bencode.LawS1415BAnswer'. -/
def lawS1415BAnswerCard : Claim7 := { stood := { row := lawS1415BAnswerRow, standIns := [], harness := (true, "e9648378b470a8b5becd5abb88cf69387b6d55a605ad8197c648cddc07f47531"), looks := true }, told := true, laidByText := true, laidKinds := [.sentinel], laidTests := true, laidLooks := .later, goes := false }
def LawS1415BAnswerToldSaid : Prop := Claim7.holds Ybaf.pinned (.plain (OpenSpec.ofChange lawS1415BAnswerSpec)) lawS1415BAnswerCard
/-- ITS FALSE NEIGHBOUR. Refute it at one input. -/
def LawS1415BAnswerToldWrongFalsely : Prop := Claim7.holds Ybaf.pinned (.plain (OpenSpec.ofChange lawS1415BAnswerWrong)) lawS1415BAnswerCard

/-- THE TOLD AND TIED CARD OF 'bencode.LawS1415BCloser'. -/
def lawS1415BCloserCard : Claim7 := { stood := { row := lawS1415BCloserRow, standIns := [], harness := (true, "e9648378b470a8b5becd5abb88cf69387b6d55a605ad8197c648cddc07f47531"), looks := true }, told := true, laidByText := true, laidKinds := [.sentinel], laidTests := true, laidLooks := .later, goes := false }
def LawS1415BCloserToldSaid : Prop := Claim7.holds Ybaf.pinned (.plain (OpenSpec.ofChange lawS1415BCloserSpec)) lawS1415BCloserCard
/-- ITS FALSE NEIGHBOUR. Refute it at one input. -/
def LawS1415BCloserToldWrongFalsely : Prop := Claim7.holds Ybaf.pinned (.plain (OpenSpec.ofChange lawS1415BCloserWrong)) lawS1415BCloserCard
end Rows
end Go.Proofs.YbulkacgyFmt
