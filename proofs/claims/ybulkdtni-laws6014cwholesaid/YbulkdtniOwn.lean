/-
  Rows of one-cell elements that the call itself makes: 'RowF w g e n f': block g is a row of n cells of type e, none frozen, cell j holding 'f j'. My own small kit for this project's walks.
-/
import Derived.WalkKit
import Derived.WalkSmall
namespace Go.Proofs.Ybulkdtni.Own
open Go.RowKit

theorem hide {p : Prop} (h : p) : Hid p := h
theorem unhide {p : Prop} (h : Hid p) : p := h

def RowF (w : World) (g : Nat) (e : TypeId) (n : Nat) (f : Nat → Value) : Prop :=
  ∃ cs : Array Value, w.heap[g]? = some (.cells cs e (0, 0)) ∧ cs.size = n ∧ ∀ j, j < n → cs[j]? = some (f j)

theorem RowF.lt {w : World} {g : Nat} {e : TypeId} {n : Nat} {f : Nat → Value} (h : RowF w g e n f) : g < w.heap.size := by
  obtain ⟨cs, hc, _⟩ := h
  exact lt_of_block hc

theorem RowF.cell {w : World} {g : Nat} {e : TypeId} {n : Nat} {f : Nat → Value} (h : RowF w g e n f) {j : Nat} (hj : j < n) : w.cell? ⟨g, j, none⟩ = some (f j) := by
  obtain ⟨cs, hc, hn, hf⟩ := h
  rw [cell_of_row w g j cs e (0, 0) hc]
  exact hf j hj

theorem RowF.frozen {w : World} {g : Nat} {e : TypeId} {n : Nat} {f : Nat → Value} (h : RowF w g e n f) (j : Nat) : w.frozen? ⟨g, j, none⟩ = false := by
  obtain ⟨cs, hc, _⟩ := h
  exact frozen_of_row w g j cs e hc

theorem RowF.of_block {w w' : World} {g : Nat} {e : TypeId} {n : Nat} {f : Nat → Value} (h : RowF w g e n f) (hb : w'.heap[g]? = w.heap[g]?) : RowF w' g e n f := by
  obtain ⟨cs, hc, r⟩ := h
  exact ⟨cs, hb.trans hc, r⟩

theorem RowF.below {w w' : World} {g B : Nat} {e : TypeId} {n : Nat} {f : Nat → Value} (h : RowF w g e n f) (hb : Below B w w') (hg : g < B) : RowF w' g e n f := h.of_block (hb.block g hg)

theorem RowF.alloc {w : World} {g : Nat} {e : TypeId} {n : Nat} {f : Nat → Value} (h : RowF w g e n f) (o : Obj) : RowF (w.alloc o) g e n f := h.of_block (Below.heap_alloc w o g h.lt)

theorem RowF.other {w : World} {g : Nat} {e : TypeId} {n : Nat} {f : Nat → Value} (h : RowF w g e n f) {a : Addr} (ha : g ≠ a.block) (u : Value) : RowF (w.setCell a u) g e n f := h.of_block (Below.heap_setCell w a u g ha)

theorem RowF.drew {w : World} {g : Nat} {e : TypeId} {n : Nat} {f : Nat → Value} (h : RowF w g e n f) : RowF w.drew g e n f := h

theorem RowF.drewN {w : World} {g : Nat} {e : TypeId} {n : Nat} {f : Nat → Value} (h : RowF w g e n f) (q : Nat) : RowF (w.drewN q) g e n f := h

theorem RowF.store {w : World} {g : Nat} {e : TypeId} {n : Nat} {f f' : Nat → Value} (h : RowF w g e n f) (k : Nat) (u : Value) (hk : k < n → f' k = u) (hf : ∀ j, j < n → j ≠ k → f' j = f j) : RowF (w.setCell ⟨g, k, none⟩ u) g e n f' := by
  obtain ⟨cs, hc, hn, hcs⟩ := h
  refine ⟨cs.setIfInBounds k u, heap_setCell_same w g k cs e u hc, by simpa using hn, fun j hj => ?_⟩
  rw [Array.getElem?_setIfInBounds]
  by_cases hjk : k = j
  · subst hjk
    rw [if_pos rfl, if_pos (by omega), hk hj]
  · rw [if_neg hjk, hcs j hj, hf j hj (fun e => hjk e.symm)]

theorem RowF.congr {w : World} {g : Nat} {e : TypeId} {n : Nat} {f f' : Nat → Value} (h : RowF w g e n f) (hf : ∀ j, j < n → f' j = f j) : RowF w g e n f' := by
  obtain ⟨cs, hc, hn, hcs⟩ := h
  exact ⟨cs, hc, hn, fun j hj => by rw [hcs j hj, hf j hj]⟩

theorem RowF.rep {w : World} {g : Nat} {e : TypeId} {n : Nat} {z : Value} (h : RowF w g e n (fun _ => z)) : w.heap[g]? = some (.cells (List.replicate n z).toArray e (0, 0)) := by
  obtain ⟨cs, hc, hn, hcs⟩ := h
  rw [hc]
  congr 2
  apply Array.ext_getElem?
  intro j
  by_cases hj : j < n
  · rw [hcs j hj]; simp [hj]
  · rw [Array.getElem?_eq_none (by omega)]; simp [hj]

/-- Rows of different element types lie in different blocks. -/
theorem RowF.ne {w : World} {g h : Nat} {e e' : TypeId} {n n' : Nat} {f f' : Nat → Value} (a : RowF w g e n f) (b : RowF w h e' n' f') (hne : e ≠ e') : g ≠ h := by
  rintro rfl
  obtain ⟨cs, hc, _⟩ := a
  obtain ⟨cs', hc', _⟩ := b
  rw [hc] at hc'
  simp at hc'
  exact hne hc'.2

/-- A new block of cells. -/
theorem rowF_alloc (w : World) (cs : List Value) (e : TypeId) : RowF (w.alloc (.cells cs.toArray e)) w.heap.size e cs.length (fun j => cs.getD j undef) :=
  ⟨cs.toArray, heap_alloc_new w _, by simp, fun j hj => by simp [List.getD, hj]⟩

/-- 'make([]T, n)' at a one-cell element type: a row of n zero values in a new block g. -/
theorem wpList_make_row {P : Program} {w : World} {ops : Array Oper} {rest : List Oper} {o : Oper} {a : Act} {Q : Exit → Act → World → Prop}
    (hg : o.guard = none) (l c : Operand) (t : TypeId) (hop : o.op = Op.makeSlice t l c)
    (e : TypeId) (z : Value) (bytes : Nat) (h1 : P.underlying t = some (.slice e)) (h2 : (P.info? e).map (fun i => (i.zero, i.size, i.bytes)) = some (some z, 1, bytes)) (hz : z.cells = #[z])
    (kl kc : IntKind) (L C : Int) (n : Nat) (hl : a.eval l = .int kl L) (hc : a.eval c = .int kc C) (hL : L = (n : Int)) (hC : C = (n : Int)) (b2 : bytes * n ≤ 281474976710656) (b3 : n ≤ maxLen)
    (hK : ∀ g w', Hid (g = w.heap.size) → Hid (w'.heap.size = g + 1) → RowF w' g e n (fun _ => z) → Below g w w' → wpList P ops Q rest (a.put o.dst (.slice (some ⟨g, 0, none⟩) n n)) w') :
    wpList P ops Q (o :: rest) a w := by
  obtain ⟨i, hi, hz0, hz1, hz2⟩ := info_parts h2
  refine wpList_plain hg fun K hK' => ?_
  have h63' : (n : Int) ≤ 9223372036854775807 := by
    have h := b3
    simp [maxLen] at h
    omega
  have hb' : (i.bytes : Int) * (n : Int) ≤ 281474976710656 := by
    have h : ((i.bytes * n : Nat) : Int) ≤ 281474976710656 := by rw [hz2]; omega
    rwa [Int.natCast_mul] at h
  have hr := run_make (P := P) w t e i z h1 hi hz0 kl kc n n (by omega) (Int.le_refl _) hb' h63'
  simp only [Int.toNat_natCast] at hr
  subst hL
  subst hC
  unfold Oper.wp
  simp [execOp, hop, hl, hc, hr, Result.andThen]
  refine hK' _ _ (hK w.heap.size _ rfl ?_ ?_ ((Below.refl _ _).alloc (Nat.le_refl _) _))
  · show (w.alloc _).heap.size = _
    simp
  · refine ⟨_, heap_alloc_new w _, by rw [size_madeCells, hz1]; simp, fun j hj => ?_⟩
    rw [hz1, hz]
    simp [madeCells, hj, Nat.mod_one]

end Go.Proofs.Ybulkdtni.Own
