/-
  DERIVED. GIVEN WITH THE SEED: THE CARDS: each row of YbulkdttgFmtRows.lean that lists a variable, with what it lists TIED to the program's text (the seventh form; the later family's looks); each row that meets fmt, with fmt's text TOLD by the authors' own Lean function (tested against real Go, not proved from fmt's source: count such statements apart). THE CARD IS WHAT COUNTS. Prove the row's statement (the work); the ties are given (YbulkdttgFmtTie.lean); close each card by the builder's one call (the guide's Derived/Test/ToyasCard.lean, 'card_holds'). Laid BY PROGRAM, IN A SANDBOX (cutbox-door.mjs). By AI agents, Wed Nov 11 2026. No macro, syntax, notation, axiom, sorry.
-/
import Derived.Test.YbulkdttgFmtRows
import GoSem.ClaimSeven
namespace Go.Proofs.YbulkdttgFmt
namespace Rows

/-- THE TOLD CARD OF 'happenstance.LawS6025BWhole'. -/
def lawS6025BWholeCard : Claim7 := { stood := { row := lawS6025BWholeRow, standIns := [], harness := (true, "dc0d581c89878f4e962a5d7a85971f1a18934a248a8402dd704d5af31d114527"), looks := true }, told := true, goes := false }
def LawS6025BWholeToldSaid : Prop := Claim7.holds Ybaf.pinned (.plain (OpenSpec.ofChange lawS6025BWholeSpec)) lawS6025BWholeCard
/-- ITS FALSE NEIGHBOUR. Refute it at one input. -/
def LawS6025BWholeToldWrongFalsely : Prop := Claim7.holds Ybaf.pinned (.plain (OpenSpec.ofChange lawS6025BWholeWrong)) lawS6025BWholeCard

/-- THE TOLD AND TIED CARD OF 'happenstance.LawS6025CWhole'. -/
def lawS6025CWholeCard : Claim7 := { stood := { row := lawS6025CWholeRow, standIns := [], harness := (true, "dc0d581c89878f4e962a5d7a85971f1a18934a248a8402dd704d5af31d114527"), looks := true }, told := true, laidByText := true, laidKinds := [.data, .sentinel, .pinned], laidTests := true, laidLooks := .later, goes := false }
def LawS6025CWholeToldSaid : Prop := Claim7.holds Ybaf.pinned (.plain (OpenSpec.ofChange lawS6025CWholeSpec)) lawS6025CWholeCard
/-- ITS FALSE NEIGHBOUR. Refute it at one input. -/
def LawS6025CWholeToldWrongFalsely : Prop := Claim7.holds Ybaf.pinned (.plain (OpenSpec.ofChange lawS6025CWholeWrong)) lawS6025CWholeCard
end Rows
end Go.Proofs.YbulkdttgFmt
