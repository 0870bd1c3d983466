/-
  NARROWER THAN 'FOR EVERY INPUT', by the rows' own cells (each row's printed sentence says how): LawS6025CWhole: ifaces, laid.
  DERIVED. THE GIVEN ROWS OF THIS SEAT. 2 by the template 'for every input the law returns true; each argument reads behind the call as it read before'; 0 by the template 'total and deterministic' (their statements: YbulkdttgFmtTotals.lean).
  GIVEN WITH THE SEED: the statements are not yours to turn. If you find one false, say at which input.
  Laid BY PROGRAM, IN A SANDBOX (cutbox-rows.mjs): the forced cells as the released guide's own fill.sh prints them over the translation a6f95a96653ba5e0… (all of the seat's roots in one cut). By AI agents, Wed Nov 11 2026. No macro, syntax, notation, axiom, sorry.
-/
import Derived.Test.YbulkdttgFmtChecked
import GoSem.PinnedTables
import GoSem.Claim
import GoSem.ClaimJoined
import GoSem.ClaimMapViews
import Derived.JoinedTies
import Derived.KernelRfl
namespace Go.Proofs.YbulkdttgFmt
/- THE CELL 'sum', in the pinned program and in every row, IS THE sha256 OF THE DUMP (.gsa) THAT YbulkdttgFmtProg.lean LOADS. Nothing in Lean hashes anything: it is a label: what it is worth is what the hold of that sum in a sandbox is worth. -/
noncomputable def Ybaf.pinned : Pinned := { name := "ybulkdttgfmt", sum := "a6f95a96653ba5e00f00d7e84114a963d12eca8ee258bfa67be9d79697cac012", checked := Ybaf.checked }
namespace Rows
def none {H : Type} : Left H := { results := [], args := [] }

/- WHAT THE LISTED PACKAGE-LEVEL VARIABLES READ AS WHEN THE CALL BEGINS. Each datum BY PROGRAM (the guide's laid-datum.mjs) off the statement by which the dump's own 'gosem.cut.vars' lays the variable. In a bare row this is a premise. The card (YbulkdttgFmtCards.lean) ties it to the program's text. -/
def laid_unicode_utf8_acceptRanges {H : Type} : DataW H := .agg [.agg [.lit (.int .u8 128), .lit (.int .u8 191)], .agg [.lit (.int .u8 160), .lit (.int .u8 191)], .agg [.lit (.int .u8 128), .lit (.int .u8 159)], .agg [.lit (.int .u8 144), .lit (.int .u8 191)], .agg [.lit (.int .u8 128), .lit (.int .u8 143)], .agg [.lit (.int .u8 0), .lit (.int .u8 0)], .agg [.lit (.int .u8 0), .lit (.int .u8 0)], .agg [.lit (.int .u8 0), .lit (.int .u8 0)], .agg [.lit (.int .u8 0), .lit (.int .u8 0)], .agg [.lit (.int .u8 0), .lit (.int .u8 0)], .agg [.lit (.int .u8 0), .lit (.int .u8 0)], .agg [.lit (.int .u8 0), .lit (.int .u8 0)], .agg [.lit (.int .u8 0), .lit (.int .u8 0)], .agg [.lit (.int .u8 0), .lit (.int .u8 0)], .agg [.lit (.int .u8 0), .lit (.int .u8 0)], .agg [.lit (.int .u8 0), .lit (.int .u8 0)]]
def laid_example_com_happenstance_happenstance_ErrInvalidUTF8 {H : Type} : DataW H := .iface "*errors.errorString" (.ptr (.agg [.lit (.string [105, 100, 32, 105, 115, 32, 110, 111, 116, 32, 118, 97, 108, 105, 100, 32, 85, 84, 70, 45, 56])]))
/-- One of Go's own tables, pinned by name: the form's constant. -/
def laid_unicode_utf8_first : DataW Unit := Go.Pinned.utf8First

/-- 'happenstance.LawS6025BWhole': WHATEVER THE INPUT: true; the input reads as it did. -/
def lawS6025BWholeSpec : ChangeSpec := { name := "lawS6025BWhole", fn := fun _ => fun
  | [d1, d2, d3, d4] => { results := [.lit (.bool true)], args := [d1, d2, d3, d4] }
  | _ => none }
def lawS6025BWholeRow : OpenClaim := { program := "ybulkdttgfmt", sum := "a6f95a96653ba5e00f00d7e84114a963d12eca8ee258bfa67be9d79697cac012", func := "example.com/happenstance/happenstance.LawS6025BWhole", spec := "lawS6025BWhole", stops := ["fmt.errorf"], inPlace := ["fmt.errorf"], apart := false }
/-- NO THEOREM (fmt's text is open here; it may be false): for the released tool's asking of the row's closed facts alone. THE STATEMENT IS 'LawS6025BWholeToldSaid' (YbulkdttgFmtCards.lean). -/
def LawS6025BWholeFormAsk : Prop := lawS6025BWholeRow.holds Ybaf.pinned (OpenSpec.ofChange lawS6025BWholeSpec)

/-- ITS FALSE NEIGHBOUR: 'it returns false'. Refute it at one input. -/
def lawS6025BWholeWrong : ChangeSpec := { name := "lawS6025BWhole", fn := fun _ => fun
  | [d1, d2, d3, d4] => { results := [.lit (.bool false)], args := [d1, d2, d3, d4] }
  | _ => none }
def LawS6025BWholeWrongFormAsk : Prop := lawS6025BWholeRow.holds Ybaf.pinned (OpenSpec.ofChange lawS6025BWholeWrong)

/-- 'happenstance.LawS6025CWhole': WHATEVER THE INPUT: true; the input reads as it did. -/
def lawS6025CWholeSpec : ChangeSpec := { name := "lawS6025CWhole", vars := ["example.com/happenstance/happenstance.ErrInvalidUTF8"], fn := fun _ => fun
  | [d1, d2, d3, d4, g1] => { results := [.lit (.bool true)], args := [d1, d2, d3, d4], vars := [g1] }
  | _ => none }
def lawS6025CWholeRow : OpenClaim := { program := "ybulkdttgfmt", sum := "a6f95a96653ba5e00f00d7e84114a963d12eca8ee258bfa67be9d79697cac012", func := "example.com/happenstance/happenstance.LawS6025CWhole", spec := "lawS6025CWhole", stops := ["fmt.errorf"], inPlace := ["fmt.errorf", "internal/reflectlite.TypeOf"], unfollowed := true, recurses := true, named := ["example.com/happenstance/happenstance.ErrInvalidUTF8", "unicode/utf8.first", "unicode/utf8.acceptRanges"], ifaces := true, apart := false, laid := [("unicode/utf8.acceptRanges", laid_unicode_utf8_acceptRanges), ("example.com/happenstance/happenstance.ErrInvalidUTF8", laid_example_com_happenstance_happenstance_ErrInvalidUTF8), ("unicode/utf8.first", laid_unicode_utf8_first)] }
/-- NO THEOREM (fmt's text is open here; it may be false): for the released tool's asking of the row's closed facts alone. THE STATEMENT IS 'LawS6025CWholeToldSaid' (YbulkdttgFmtCards.lean). -/
def LawS6025CWholeFormAsk : Prop := lawS6025CWholeRow.holds Ybaf.pinned (OpenSpec.ofChange lawS6025CWholeSpec)

/-- ITS FALSE NEIGHBOUR: 'it returns false'. Refute it at one input. -/
def lawS6025CWholeWrong : ChangeSpec := { name := "lawS6025CWhole", vars := ["example.com/happenstance/happenstance.ErrInvalidUTF8"], fn := fun _ => fun
  | [d1, d2, d3, d4, g1] => { results := [.lit (.bool false)], args := [d1, d2, d3, d4], vars := [g1] }
  | _ => none }
def LawS6025CWholeWrongFormAsk : Prop := lawS6025CWholeRow.holds Ybaf.pinned (OpenSpec.ofChange lawS6025CWholeWrong)

end Rows
end Go.Proofs.YbulkdttgFmt
