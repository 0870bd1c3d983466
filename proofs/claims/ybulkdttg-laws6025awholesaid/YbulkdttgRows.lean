/-
  No cell of these rows narrows 'for every input' (looked for: loops, veiled, ifaces, maps, wideKeys, modest, calm, conditions, laid).
  DERIVED. THE GIVEN ROWS OF THIS SEAT. 1 by the template 'for every input the law returns true; each argument reads behind the call as it read before'; 0 by the template 'total and deterministic' (their statements: YbulkdttgTotals.lean).
  GIVEN WITH THE SEED: the statements are not yours to turn. If you find one false, say at which input.
  Laid BY PROGRAM, IN A SANDBOX (cutbox-rows.mjs): the forced cells as the released guide's own fill.sh prints them over the translation 663d42c7e59fb7e6… (all of the seat's roots in one cut). By AI agents, Wed Nov 11 2026. No macro, syntax, notation, axiom, sorry.
-/
import Derived.Test.YbulkdttgChecked
import GoSem.Claim
import GoSem.ClaimJoined
import GoSem.ClaimMapViews
import Derived.JoinedTies
import Derived.KernelRfl
namespace Go.Proofs.Ybulkdttg
/- THE CELL 'sum', in the pinned program and in every row, IS THE sha256 OF THE DUMP (.gsa) THAT YbulkdttgProg.lean LOADS. Nothing in Lean hashes anything: it is a label: what it is worth is what the hold of that sum in a sandbox is worth. -/
noncomputable def Yba.pinned : Pinned := { name := "ybulkdttg", sum := "663d42c7e59fb7e6c5092090b2bbf7e9ff9276fb2e5078ed0292f94b207a8784", checked := Yba.checked }
namespace Rows
def none {H : Type} : Left H := { results := [], args := [] }

/-- 'happenstance.LawS6025AWhole': WHATEVER THE INPUT: true; the input reads as it did. -/
def lawS6025AWholeSpec : ChangeSpec := { name := "lawS6025AWhole", fn := fun _ => fun
  | [d] => { results := [.lit (.bool true)], args := [d] }
  | _ => none }
def lawS6025AWholeRow : OpenClaim := { program := "ybulkdttg", sum := "663d42c7e59fb7e6c5092090b2bbf7e9ff9276fb2e5078ed0292f94b207a8784", func := "example.com/happenstance/happenstance.LawS6025AWhole", spec := "lawS6025AWhole", apart := false }
def LawS6025AWholeSaid : Prop := lawS6025AWholeRow.holds Yba.pinned (OpenSpec.ofChange lawS6025AWholeSpec)

/-- ITS FALSE NEIGHBOUR: 'it returns false'. Refute it at one input. -/
def lawS6025AWholeWrong : ChangeSpec := { name := "lawS6025AWhole", fn := fun _ => fun
  | [d] => { results := [.lit (.bool false)], args := [d] }
  | _ => none }
def LawS6025AWholeWrongFalsely : Prop := lawS6025AWholeRow.holds Yba.pinned (OpenSpec.ofChange lawS6025AWholeWrong)

end Rows
end Go.Proofs.Ybulkdttg
