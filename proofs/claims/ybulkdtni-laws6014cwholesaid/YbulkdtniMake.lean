/-
  'make([]T, n, m)' at a one-cell element type.
-/
import Derived.Test.YbulkdtniOwn
namespace Go.Proofs.Ybulkdtni.Own
open Go.RowKit

/-- 'make([]T, n, m)': a row of m zero values in a new block g, the slice cut to n. -/
theorem wpList_make_cap {P : Program} {w : World} {ops : Array Oper} {rest : List Oper} {o : Oper} {a : Act} {Q : Exit → Act → World → Prop}
    (hg : o.guard = none) (l c : Operand) (t : TypeId) (hop : o.op = Op.makeSlice t l c)
    (e : TypeId) (z : Value) (bytes : Nat) (h1 : P.underlying t = some (.slice e)) (h2 : (P.info? e).map (fun i => (i.zero, i.size, i.bytes)) = some (some z, 1, bytes)) (hz : z.cells = #[z])
    (kl kc : IntKind) (L C : Int) (n m : Nat) (hl : a.eval l = .int kl L) (hc : a.eval c = .int kc C) (hL : L = (n : Int)) (hC : C = (m : Int)) (hnm : n ≤ m) (b2 : bytes * m ≤ 281474976710656) (b3 : m ≤ maxLen)
    (hK : ∀ g w', Hid (g = w.heap.size) → Hid (w'.heap.size = g + 1) → RowF w' g e m (fun _ => z) → Below g w w' → wpList P ops Q rest (a.put o.dst (.slice (some ⟨g, 0, none⟩) n m)) w') :
    wpList P ops Q (o :: rest) a w := by
  obtain ⟨i, hi, hz0, hz1, hz2⟩ := info_parts h2
  refine wpList_plain hg fun K hK' => ?_
  have h63' : (m : Int) ≤ 9223372036854775807 := by
    have h := b3
    simp [maxLen] at h
    omega
  have hb' : (i.bytes : Int) * (m : Int) ≤ 281474976710656 := by
    have h : ((i.bytes * m : Nat) : Int) ≤ 281474976710656 := by rw [hz2]; omega
    rwa [Int.natCast_mul] at h
  have hr := run_make (P := P) w t e i z h1 hi hz0 kl kc n m (by omega) (by omega) hb' h63'
  simp only [Int.toNat_natCast] at hr
  subst hL
  subst hC
  unfold Oper.wp
  simp [execOp, hop, hl, hc, hr, Result.andThen]
  refine hK' _ _ (hK w.heap.size _ rfl ?_ ?_ ((Below.refl _ _).alloc (Nat.le_refl _) _))
  · show (w.alloc _).heap.size = _
    simp
  · refine ⟨_, heap_alloc_new w _, by rw [size_madeCells, hz1]; simp, fun j hj => ?_⟩
    rw [hz1, hz]
    simp [madeCells, hj, Nat.mod_one]

end Go.Proofs.Ybulkdtni.Own
