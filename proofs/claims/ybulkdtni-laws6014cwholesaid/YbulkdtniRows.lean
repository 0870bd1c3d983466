/-
  No cell of these rows narrows 'for every input' (looked for: loops, veiled, ifaces, maps, wideKeys, modest, calm, conditions, laid).
  DERIVED. THE GIVEN ROWS OF THIS SEAT. 2 by the template 'for every input the law returns true; each argument reads behind the call as it read before'; 0 by the template 'total and deterministic' (their statements: YbulkdtniTotals.lean).
  GIVEN WITH THE SEED: the statements are not yours to turn. If you find one false, say at which input.
  Laid BY PROGRAM, IN A SANDBOX (cutbox-rows.mjs): the forced cells as the released guide's own fill.sh prints them over the translation a0315407d2bbcf26… (all of the seat's roots in one cut). By AI agents, Wed Nov 11 2026. No macro, syntax, notation, axiom, sorry.
-/
import Derived.Test.YbulkdtniChecked
import GoSem.Claim
import GoSem.ClaimJoined
import GoSem.ClaimMapViews
import Derived.JoinedTies
import Derived.KernelRfl
namespace Go.Proofs.Ybulkdtni
/- THE CELL 'sum', in the pinned program and in every row, IS THE sha256 OF THE DUMP (.gsa) THAT YbulkdtniProg.lean LOADS. Nothing in Lean hashes anything: it is a label: what it is worth is what the hold of that sum in a sandbox is worth. -/
noncomputable def Yba.pinned : Pinned := { name := "ybulkdtni", sum := "a0315407d2bbcf26459f2de5021d711426cfa902381e552fabb5eb8737e998d9", checked := Yba.checked }
namespace Rows
def none {H : Type} : Left H := { results := [], args := [] }

/-- 'netnode.LawS6014BWhole': WHATEVER THE INPUT: true; the input reads as it did. -/
def lawS6014BWholeSpec : ChangeSpec := { name := "lawS6014BWhole", fn := fun _ => fun
  | [d1, d2, d3, d4, d5, d6, d7, d8, d9, d10] => { results := [.lit (.bool true)], args := [d1, d2, d3, d4, d5, d6, d7, d8, d9, d10] }
  | _ => none }
def lawS6014BWholeRow : OpenClaim := { program := "ybulkdtni", sum := "a0315407d2bbcf26459f2de5021d711426cfa902381e552fabb5eb8737e998d9", func := "example.com/hedgerow/hedgerow/netnode.LawS6014BWhole", spec := "lawS6014BWhole", plainKeys := false, apart := false }
def LawS6014BWholeSaid : Prop := lawS6014BWholeRow.holds Yba.pinned (OpenSpec.ofChange lawS6014BWholeSpec)

/-- ITS FALSE NEIGHBOUR: 'it returns false'. Refute it at one input. -/
def lawS6014BWholeWrong : ChangeSpec := { name := "lawS6014BWhole", fn := fun _ => fun
  | [d1, d2, d3, d4, d5, d6, d7, d8, d9, d10] => { results := [.lit (.bool false)], args := [d1, d2, d3, d4, d5, d6, d7, d8, d9, d10] }
  | _ => none }
def LawS6014BWholeWrongFalsely : Prop := lawS6014BWholeRow.holds Yba.pinned (OpenSpec.ofChange lawS6014BWholeWrong)

/-- 'graph.LawS6014CWhole': WHATEVER THE INPUT: true; the input reads as it did. -/
def lawS6014CWholeSpec : ChangeSpec := { name := "lawS6014CWhole", fn := fun _ => fun
  | [d] => { results := [.lit (.bool true)], args := [d] }
  | _ => none }
def lawS6014CWholeRow : OpenClaim := { program := "ybulkdtni", sum := "a0315407d2bbcf26459f2de5021d711426cfa902381e552fabb5eb8737e998d9", func := "example.com/hedgerow/hedgerow/graph.LawS6014CWhole", spec := "lawS6014CWhole", inPlace := ["internal/reflectlite.ValueOf", "internal/reflectlite.Swapper", "(internal/reflectlite.Value).Len"], unfollowed := true, recurses := true, plainKeys := false, apart := false }
def LawS6014CWholeSaid : Prop := lawS6014CWholeRow.holds Yba.pinned (OpenSpec.ofChange lawS6014CWholeSpec)

/-- ITS FALSE NEIGHBOUR: 'it returns false'. Refute it at one input. -/
def lawS6014CWholeWrong : ChangeSpec := { name := "lawS6014CWhole", fn := fun _ => fun
  | [d] => { results := [.lit (.bool false)], args := [d] }
  | _ => none }
def LawS6014CWholeWrongFalsely : Prop := lawS6014CWholeRow.holds Yba.pinned (OpenSpec.ofChange lawS6014CWholeWrong)

end Rows
end Go.Proofs.Ybulkdtni
