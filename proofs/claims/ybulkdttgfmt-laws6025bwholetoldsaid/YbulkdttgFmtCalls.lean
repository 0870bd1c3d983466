import Derived.Test.YbulkdttgFmtFacts
import Derived.WalkSpells
import Derived.Deep.QuietTactic
import Derived.BigQuiet
import Derived.Deep.DeepCutAuto
import Derived.Deep.CutBlock
import Derived.RegionTactic
import Derived.Laws.BytesArg
namespace Go.Proofs.YbulkdttgFmt.lawS6025BWhole
open Go.RowKit Go.Proofs.YbulkdttgFmt.Own Go.Extern.Stop Go.Stop Go.Extern
attribute [local go_sem] call23 guardF fmtAp fmtAr fmtAp0 fmtAr0 fmtBp fmtBr fmtBp0 fmtBr0 fmtCp fmtCr fmtCp0 fmtCr0 fmtDp fmtDr fmtDp0 fmtDr0 op9_115 op3_100 op33_100 ptr81 elem81

set_option maxRecDepth 100000 in
theorem errorfA (b : Nat) (s : ByteArray) (x : Int) (w : World) (h0 : w.cell? ⟨b, 0, none⟩ = some (.iface 9 (.string s))) (h1 : w.cell? ⟨b, 1, none⟩ = some (.iface 3 (.int .i64 x))) :
    Calls Ybaf.prog 13 #[.string fmtA, .slice (some ⟨b, 0, none⟩) 2 2] w fun e w' => ∃ p, e = .returned (.iface 81 (.pointer p)) ∧ Below w.heap.size w w' := by
  unfold fmtA
  go_enter Ybaf.func13, Ybaf.ntmps13
  go_wp2
  go_ret
  exact ⟨_, rfl, ((Below.refl _ _).alloc (Nat.le_refl _) _).drew⟩

set_option maxRecDepth 100000 in
theorem errorfB (b : Nat) (s : ByteArray) (x : Int) (w : World) (h0 : w.cell? ⟨b, 0, none⟩ = some (.iface 9 (.string s))) (h1 : w.cell? ⟨b, 1, none⟩ = some (.iface 3 (.int .i64 x))) :
    Calls Ybaf.prog 13 #[.string fmtB, .slice (some ⟨b, 0, none⟩) 2 2] w fun e w' => ∃ p, e = .returned (.iface 81 (.pointer p)) ∧ Below w.heap.size w w' := by
  unfold fmtB
  go_enter Ybaf.func13, Ybaf.ntmps13
  go_wp2
  go_ret
  exact ⟨_, rfl, ((Below.refl _ _).alloc (Nat.le_refl _) _).drew⟩

set_option maxRecDepth 100000 in
theorem errorfC (b : Nat) (s : ByteArray) (x : Int) (w : World) (h0 : w.cell? ⟨b, 0, none⟩ = some (.iface 9 (.string s))) (h1 : w.cell? ⟨b, 1, none⟩ = some (.iface 3 (.int .i64 x))) :
    Calls Ybaf.prog 13 #[.string fmtC, .slice (some ⟨b, 0, none⟩) 2 2] w fun e w' => ∃ p, e = .returned (.iface 81 (.pointer p)) ∧ Below w.heap.size w w' := by
  unfold fmtC
  go_enter Ybaf.func13, Ybaf.ntmps13
  go_wp2
  go_ret
  exact ⟨_, rfl, ((Below.refl _ _).alloc (Nat.le_refl _) _).drew⟩

set_option maxRecDepth 100000 in
theorem errorfD (b : Nat) (s : ByteArray) (v x y : Int) (w : World) (h0 : w.cell? ⟨b, 0, none⟩ = some (.iface 9 (.string s))) (h1 : w.cell? ⟨b, 1, none⟩ = some (.iface 33 (.int .u64 v))) (h2 : w.cell? ⟨b, 2, none⟩ = some (.iface 3 (.int .i64 x))) (h3 : w.cell? ⟨b, 3, none⟩ = some (.iface 3 (.int .i64 y))) :
    Calls Ybaf.prog 13 #[.string fmtD, .slice (some ⟨b, 0, none⟩) 4 4] w fun e w' => ∃ p, e = .returned (.iface 81 (.pointer p)) ∧ Below w.heap.size w w' := by
  unfold fmtD
  go_enter Ybaf.func13, Ybaf.ntmps13
  go_wp2
  go_ret
  exact ⟨_, rfl, ((Below.refl _ _).alloc (Nat.le_refl _) _).drew⟩

end Go.Proofs.YbulkdttgFmt.lawS6025BWhole
