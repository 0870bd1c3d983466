/-
  No cell of these rows narrows 'for every input' (looked for: loops, veiled, ifaces, maps, wideKeys, modest, calm, conditions, laid).
  DERIVED. THE GIVEN ROWS OF THIS SEAT. 1 by the template 'for every input the law returns true; each argument reads behind the call as it read before'; 0 by the template 'total and deterministic' (their statements: YbulkdtseTotals.lean).
  GIVEN WITH THE SEED: the statements are not yours to turn. If you find one false, say at which input.
  Laid BY PROGRAM, IN A SANDBOX (cutbox-rows.mjs): the forced cells as the released guide's own fill.sh prints them over the translation 35a03c7325826cc5… (all of the seat's roots in one cut). By AI agents, Wed Nov 11 2026. No macro, syntax, notation, axiom, sorry.
-/
import Derived.Test.YbulkdtseChecked
import GoSem.Claim
import GoSem.ClaimJoined
import GoSem.ClaimMapViews
import Derived.JoinedTies
import Derived.KernelRfl
namespace Go.Proofs.Ybulkdtse
/- THE CELL 'sum', in the pinned program and in every row, IS THE sha256 OF THE DUMP (.gsa) THAT YbulkdtseProg.lean LOADS. Nothing in Lean hashes anything: it is a label: what it is worth is what the hold of that sum in a sandbox is worth. -/
noncomputable def Yba.pinned : Pinned := { name := "ybulkdtse", sum := "35a03c7325826cc518ee3aa87cd75d68ab78d6f2e2217b70c8db6e9cf56831a4", checked := Yba.checked }
namespace Rows
def none {H : Type} : Left H := { results := [], args := [] }

/-- 'foldline.LawS6023AWhole': WHATEVER THE INPUT: true; the input reads as it did. -/
def lawS6023AWholeSpec : ChangeSpec := { name := "lawS6023AWhole", fn := fun _ => fun
  | [d1, d2, d3, d4] => { results := [.lit (.bool true)], args := [d1, d2, d3, d4] }
  | _ => none }
def lawS6023AWholeRow : OpenClaim := { program := "ybulkdtse", sum := "35a03c7325826cc518ee3aa87cd75d68ab78d6f2e2217b70c8db6e9cf56831a4", func := "example.com/foldline/foldline.LawS6023AWhole", spec := "lawS6023AWhole", plainKeys := false, apart := false }
def LawS6023AWholeSaid : Prop := lawS6023AWholeRow.holds Yba.pinned (OpenSpec.ofChange lawS6023AWholeSpec)

/-- ITS FALSE NEIGHBOUR: 'it returns false'. Refute it at one input. -/
def lawS6023AWholeWrong : ChangeSpec := { name := "lawS6023AWhole", fn := fun _ => fun
  | [d1, d2, d3, d4] => { results := [.lit (.bool false)], args := [d1, d2, d3, d4] }
  | _ => none }
def LawS6023AWholeWrongFalsely : Prop := lawS6023AWholeRow.holds Yba.pinned (OpenSpec.ofChange lawS6023AWholeWrong)

end Rows
end Go.Proofs.Ybulkdtse
