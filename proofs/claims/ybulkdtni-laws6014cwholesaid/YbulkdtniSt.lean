/-
  The state of a sort over a row of uint64 in block g: what the row holds; nothing else turns.
-/
import Derived.Test.YbulkdtniOwn
import Derived.Test.YbulkdtniRows
import Derived.WalkSpells
import Derived.Deep.QuietTactic
import Derived.BigQuiet
import Derived.Deep.DeepCutAuto
import Derived.Deep.CutBlock
import Derived.RegionTactic
import Derived.Sort.WalkA
import Derived.Sort.WalkB3
namespace Go.Proofs.Ybulkdtni.lawS6014CWhole
open Go.RowKit Go.Proofs.Ybulkdtni.Own
open Go.Sort (swp)

/-- All but block g lies as it lay. -/
def Only (g : Nat) (w w' : World) : Prop := Below g w w' ∧ ∀ b, b < w.heap.size → b ≠ g → w'.heap[b]? = w.heap[b]?

theorem Only.refl (g : Nat) (w : World) : Only g w w := ⟨Below.refl _ _, fun _ _ _ => rfl⟩
theorem Only.trans {g : Nat} {a b c : World} (h : Only g a b) (k : Only g b c) : Only g a c :=
  ⟨h.1.trans k.1, fun x hx hn => (k.2 x (Nat.lt_of_lt_of_le hx h.1.size) hn).trans (h.2 x hx hn)⟩
theorem Only.drewN {g : Nat} {a b : World} (h : Only g a b) (q : Nat) : Only g a (b.drewN q) := ⟨below_drewN h.1 q, h.2⟩
theorem Only.setCell {g : Nat} {a b : World} (h : Only g a b) (j : Nat) (u : Value) : Only g a (b.setCell ⟨g, j, none⟩ u) :=
  ⟨h.1.setCell (Nat.le_refl _) u, fun x hx hn => (Below.heap_setCell _ _ _ _ hn).trans (h.2 x hx hn)⟩
theorem Only.alloc {g : Nat} {a b : World} (h : Only g a b) (hg : g < b.heap.size) (o : Obj) : Only g a (b.alloc o) :=
  ⟨h.1.alloc (Nat.le_of_lt hg) o, fun x hx hn => (Below.heap_alloc _ _ _ (Nat.lt_of_lt_of_le hx h.1.size)).trans (h.2 x hx hn)⟩

/-- Block g holds the n numbers of d, then whatever 'tl' says. -/
def St (w0 w : World) (g cap n : Nat) (tl : Nat → Value) (d : Array Int) : Prop :=
  d.size = n ∧ n ≤ cap ∧ RowF w g 24 cap (fun j => if j < n then .int .u64 d[j]! else tl j) ∧ Only g w0 w

variable {w0 w w1 : World} {g cap n : Nat} {tl : Nat → Value} {d d' : Array Int}

theorem St.cell (h : St w0 w g cap n tl d) {t : Nat} (ht : t < n) : w.cell? ⟨g, t, none⟩ = some (.int .u64 d[t]!) := by
  have := h.2.2.1.cell (j := t) (by have := h.2.1; omega)
  rw [if_pos ht] at this
  exact this

theorem St.frozen (h : St w0 w g cap n tl d) (t : Nat) : w.frozen? ⟨g, t, none⟩ = false := h.2.2.1.frozen t

theorem St.lt (h : St w0 w g cap n tl d) : g < w.heap.size := h.2.2.1.lt

theorem St.drewN (h : St w0 w g cap n tl d) (q : Nat) : St w0 (w.drewN q) g cap n tl d := ⟨h.1, h.2.1, h.2.2.1.drewN q, h.2.2.2.drewN q⟩

theorem St.drew (h : St w0 w g cap n tl d) : St w0 w.drew g cap n tl d := h.drewN 1

theorem St.alloc (h : St w0 w g cap n tl d) (o : Obj) : St w0 (w.alloc o) g cap n tl d := ⟨h.1, h.2.1, h.2.2.1.alloc o, h.2.2.2.alloc h.lt o⟩

theorem St.start (h : St w0 w g cap n tl d) : St w w g cap n tl d := ⟨h.1, h.2.1, h.2.2.1, Only.refl _ _⟩

theorem St.trans (h : St w0 w g cap n tl d) (k : St w w1 g cap n tl d') : St w0 w1 g cap n tl d' := ⟨k.1, k.2.1, k.2.2.1, h.2.2.2.trans k.2.2.2⟩

theorem St.set (h : St w0 w g cap n tl d) {i : Nat} (hi : i < n) (x : Int) : St w0 (w.setCell ⟨g, i, none⟩ (.int .u64 x)) g cap n tl (d.setIfInBounds i x) := by
  have hs := h.1
  refine ⟨by simpa using hs, h.2.1, h.2.2.1.store i _ (fun _ => ?_) (fun j _ hj => ?_), h.2.2.2.setCell i _⟩
  · rw [if_pos hi, getElem!_pos (d.setIfInBounds i x) i (by simp; omega)]
    simp
  · by_cases hjn : j < n
    · rw [if_pos hjn, if_pos hjn, getElem!_pos (d.setIfInBounds i x) j (by simp; omega), getElem!_pos d j (by omega), Array.getElem_setIfInBounds_ne (h := fun e => hj e.symm)]
    · rw [if_neg hjn, if_neg hjn]

theorem St.swap (h : St w0 w g cap n tl d) {i j : Nat} (hi : i < n) (hj : j < n) {x y : Int} (hx : x = d[j]!) (hy : y = d[i]!) : St w0 ((w.setCell ⟨g, i, none⟩ (.int .u64 x)).setCell ⟨g, j, none⟩ (.int .u64 y)) g cap n tl (swp d i j) := by
  subst hx
  subst hy
  exact (h.set hi _).set hj _

set_option maxHeartbeats 1000000 in
theorem isNaN40 (x : Int) (w : World) : Calls Yba.prog 40 #[.int .u64 x] w fun e w' => e = .returned (.bool false) ∧ w' = w := by
  go_enter Yba.func40, Yba.ntmps40
  go_wp2
  go_ret
  exact ⟨by simp, rfl⟩

set_option maxHeartbeats 1000000 in
theorem less22 (x y : Int) (w : World) : Calls Yba.prog 22 #[.int .u64 x, .int .u64 y] w fun e w' => e = .returned (.bool (Sort.ltInt x y)) ∧ w' = w := by
  go_enter Yba.func22, Yba.ntmps22
  go_wp2_with (go_at_call 40; refine (isNaN40 _ _).mono ?_; rintro e w' ⟨rfl, rfl⟩)
  go_ret
  exact ⟨rfl, rfl⟩

end Go.Proofs.Ybulkdtni.lawS6014CWhole
