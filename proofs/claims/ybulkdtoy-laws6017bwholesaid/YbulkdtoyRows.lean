/-
  No cell of these rows narrows 'for every input' (looked for: loops, veiled, ifaces, maps, wideKeys, modest, calm, conditions, laid).
  DERIVED. THE GIVEN ROWS OF THIS SEAT. 1 by the template 'for every input the law returns true; each argument reads behind the call as it read before'; 0 by the template 'total and deterministic' (their statements: YbulkdtoyTotals.lean).
  GIVEN WITH THE SEED: the statements are not yours to turn. If you find one false, say at which input.
  Laid BY PROGRAM, IN A SANDBOX (cutbox-rows.mjs): the forced cells as the released guide's own fill.sh prints them over the translation c9232d327f2cefa2… (all of the seat's roots in one cut). By AI agents, Wed Nov 11 2026. No macro, syntax, notation, axiom, sorry.
-/
import Derived.Test.YbulkdtoyChecked
import GoSem.Claim
import GoSem.ClaimJoined
import GoSem.ClaimMapViews
import Derived.JoinedTies
import Derived.KernelRfl
namespace Go.Proofs.Ybulkdtoy
/- THE CELL 'sum', in the pinned program and in every row, IS THE sha256 OF THE DUMP (.gsa) THAT YbulkdtoyProg.lean LOADS. Nothing in Lean hashes anything: it is a label: what it is worth is what the hold of that sum in a sandbox is worth. -/
noncomputable def Yba.pinned : Pinned := { name := "ybulkdtoy", sum := "c9232d327f2cefa24c33baa61d89361de7d3a8643fa5f205e895c6f7125d1d1a", checked := Yba.checked }
namespace Rows
def none {H : Type} : Left H := { results := [], args := [] }

/-- 'wending.LawS6017BWhole': WHATEVER THE INPUT: true; the input reads as it did. -/
def lawS6017BWholeSpec : ChangeSpec := { name := "lawS6017BWhole", fn := fun _ => fun
  | [d1, d2, d3, d4, d5, d6] => { results := [.lit (.bool true)], args := [d1, d2, d3, d4, d5, d6] }
  | _ => none }
def lawS6017BWholeRow : OpenClaim := { program := "ybulkdtoy", sum := "c9232d327f2cefa24c33baa61d89361de7d3a8643fa5f205e895c6f7125d1d1a", func := "example.com/wending/wending.LawS6017BWhole", spec := "lawS6017BWhole", apart := false }
def LawS6017BWholeSaid : Prop := lawS6017BWholeRow.holds Yba.pinned (OpenSpec.ofChange lawS6017BWholeSpec)

/-- ITS FALSE NEIGHBOUR: 'it returns false'. Refute it at one input. -/
def lawS6017BWholeWrong : ChangeSpec := { name := "lawS6017BWhole", fn := fun _ => fun
  | [d1, d2, d3, d4, d5, d6] => { results := [.lit (.bool false)], args := [d1, d2, d3, d4, d5, d6] }
  | _ => none }
def LawS6017BWholeWrongFalsely : Prop := lawS6017BWholeRow.holds Yba.pinned (OpenSpec.ofChange lawS6017BWholeWrong)

end Rows
end Go.Proofs.Ybulkdtoy
