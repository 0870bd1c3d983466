/-
  Laws that the walk of graph.fromLinks leans on; what it leaves.
-/
import Derived.Test.YbulkdtniGrow
import Derived.Test.YbulkdtniPlain2
import Derived.Test.YbulkdtniScat
import Derived.Deep.RegionWith
import Derived.Deep.RegionHeld3
import Derived.BigRegion
namespace Go.Proofs.Ybulkdtni.lawS6014CWhole
open Go.RowKit Go.Proofs.Ybulkdtni.Own
open Go.Sort (ltInt PermIn SortedIn)

theorem info24 : (Yba.prog.info? 24).map (fun i => (i.zero, i.size, i.bytes)) = some (some (.int .u64 0), 1, 8) := by kernel_rfl
theorem info21 : (Yba.prog.info? 21).map (fun i => (i.zero, i.size, i.bytes)) = some (some (.int .i32 0), 1, 4) := by kernel_rfl

theorem make71 (W : World) (n : Nat) (hn : n ≤ 1048576) : Sem.run Yba.prog (Instr.makeSlice 71 (.int .i64 (n : Int)) (.int .i64 (n : Int))) W = .ok (.slice (some ⟨W.heap.size, 0, none⟩) n n) (W.alloc (.cells (madeCells #[.int .i32 0] n) 21)) := by
  obtain ⟨i, hi, hz0, hz1, hz2⟩ := info_parts info21
  have h := run_make (P := Yba.prog) W 71 21 i (.int .i32 0) Yba.underlying71 hi hz0 .i64 .i64 n n (by omega) (Int.le_refl _) (by rw [hz2]; omega) (by omega)
  rw [hz1] at h
  simpa [Value.cells] using h

theorem wrap32 {x : Int} (h0 : 0 ≤ x) (h1 : x ≤ 1048576) : IntKind.i32.wrap x = x := by simp [IntKind.wrap, IntKind.bits, IntKind.signed]; omega

theorem wrap64 {x : Int} (h0 : 0 ≤ x) (h1 : x ≤ 1048576) : IntKind.i64.wrap x = x := by simp [IntKind.wrap, IntKind.bits, IntKind.signed]; omega

theorem new_cell0 (w : World) (o : Obj) (x y : Value) (e : TypeId) : ((w.alloc o).alloc (Obj.cells #[x, y] e)).cell? ⟨w.heap.size + 1, 0, none⟩ = some x := by
  have hs : (w.alloc o).heap.size = w.heap.size + 1 := by simp
  rw [← hs, cell_of_row _ _ _ _ _ _ (heap_alloc_new _ _)]; rfl
theorem new_cell1 (w : World) (o : Obj) (x y : Value) (e : TypeId) : ((w.alloc o).alloc (Obj.cells #[x, y] e)).cell? ⟨w.heap.size + 1, 1, none⟩ = some y := by
  have hs : (w.alloc o).heap.size = w.heap.size + 1 := by simp
  rw [← hs, cell_of_row _ _ _ _ _ _ (heap_alloc_new _ _)]; rfl

/-- A new graph, the box of its pointer, a new row of numbers. -/
theorem fresh3 (wx : World) (a b c p : Value) (n : Nat) :
    RowF (((wx.alloc (Obj.cells #[a, b, c] 76)).alloc (Obj.cells #[p] 66)).alloc (Obj.cells (madeCells #[.int .i32 0] n) 21)).drew wx.heap.size 76 3 (fun j => [a, b, c].getD j undef) ∧
    RowF (((wx.alloc (Obj.cells #[a, b, c] 76)).alloc (Obj.cells #[p] 66)).alloc (Obj.cells (madeCells #[.int .i32 0] n) 21)).drew (wx.heap.size + 1) 66 1 (fun _ => p) ∧
    RowF (((wx.alloc (Obj.cells #[a, b, c] 76)).alloc (Obj.cells #[p] 66)).alloc (Obj.cells (madeCells #[.int .i32 0] n) 21)).drew (wx.heap.size + 1 + 1) 21 n (fun _ => .int .i32 0) ∧
    But [] wx (((wx.alloc (Obj.cells #[a, b, c] 76)).alloc (Obj.cells #[p] 66)).alloc (Obj.cells (madeCells #[.int .i32 0] n) 21)).drew := by
  have s1 : (wx.alloc (Obj.cells #[a, b, c] 76)).heap.size = wx.heap.size + 1 := by simp
  have s2 : ((wx.alloc (Obj.cells #[a, b, c] 76)).alloc (Obj.cells #[p] 66)).heap.size = wx.heap.size + 1 + 1 := by simp
  refine ⟨(((rowF_alloc wx [a, b, c] 76).alloc _).alloc _).drew, ?_, ?_, (((But.alloc _ _).new (But.alloc _ _)).new (But.alloc _ _)).new (But.drew _)⟩
  · have h := rowF_alloc (wx.alloc (Obj.cells #[a, b, c] 76)) [p] 66
    rw [s1] at h
    exact ((h.congr (f' := fun _ => p) (fun j hj => by
      obtain rfl : j = 0 := by simpa using hj
      rfl)).alloc _).drew
  · rw [← s2]
    refine RowF.drew ⟨_, heap_alloc_new _ _, by rw [size_madeCells], fun j hj => ?_⟩
    simp [madeCells, hj, Nat.mod_one]

/-- Behind a call of 'index'. -/
theorem call_count {W7 wA w2 : World} {B9 G go lb k cc p : Nat} {vS : Value} {x y : Int} {f : Nat → Nat} {v9 : Value} (hb : Below wA.drew.heap.size wA.drew w2) (RA : RowF wA go 21 (k + 1) (fun j => .int .i32 (f j : Nat))) (FA : But [go] W7 wA)
    (z9 : wA.cell? ⟨B9, 0, none⟩ = some v9) (zG1 : wA.cell? ⟨G, 1, none⟩ = some vS) (p0 : wA.cell? ⟨lb, 0, none⟩ = some (.int .u64 x)) (p1 : wA.cell? ⟨lb, 1, none⟩ = some (.int .u64 y)) (hp : p < k) (hc : cc = f (p + 1)) :
    w2.cell? ⟨B9, 0, none⟩ = some v9 ∧ w2.cell? ⟨G, 1, none⟩ = some vS ∧ w2.cell? ⟨lb, 0, none⟩ = some (.int .u64 x) ∧ w2.cell? ⟨lb, 1, none⟩ = some (.int .u64 y) ∧
      w2.cell? ⟨go, p + 1, none⟩ = some (.int .i32 (cc : Int)) ∧ w2.frozen? ⟨go, p + 1, none⟩ = false ∧ But [go] W7 w2 ∧ RowF w2 go 21 (k + 1) (fun j => .int .i32 (f j : Nat)) := by
  have h2 : RowF w2 go 21 (k + 1) (fun j => .int .i32 (f j : Nat)) := RA.drew.below (w' := w2) hb RA.lt
  refine ⟨cell_below (w := wA.drew) z9 hb, cell_below (w := wA.drew) zG1 hb, cell_below (w := wA.drew) p0 hb, cell_below (w := wA.drew) p1 hb, ?_, h2.frozen _, (FA.new (But.drew wA)).new (But.below hb), h2⟩
  rw [hc]
  exact h2.cell (by omega)

theorem call_count' {W7 wA w2 : World} {B9 G go lb k cc p : Nat} {vS : Value} {y : Int} {f : Nat → Nat} {v9 : Value} (hb : Below wA.drew.heap.size wA.drew w2) (RA : RowF wA go 21 (k + 1) (fun j => .int .i32 (f j : Nat))) (FA : But [go] W7 wA)
    (z9 : wA.cell? ⟨B9, 0, none⟩ = some v9) (zG1 : wA.cell? ⟨G, 1, none⟩ = some vS) (p1 : wA.cell? ⟨lb, 1, none⟩ = some (.int .u64 y)) (hp : p < k) (hc : cc = f (p + 1)) :
    w2.cell? ⟨B9, 0, none⟩ = some v9 ∧ w2.cell? ⟨G, 1, none⟩ = some vS ∧ w2.cell? ⟨lb, 1, none⟩ = some (.int .u64 y) ∧
      w2.cell? ⟨go, p + 1, none⟩ = some (.int .i32 (cc : Int)) ∧ w2.frozen? ⟨go, p + 1, none⟩ = false ∧ But [go] W7 w2 ∧ RowF w2 go 21 (k + 1) (fun j => .int .i32 (f j : Nat)) := by
  have h2 : RowF w2 go 21 (k + 1) (fun j => .int .i32 (f j : Nat)) := RA.drew.below (w' := w2) hb RA.lt
  refine ⟨cell_below (w := wA.drew) z9 hb, cell_below (w := wA.drew) zG1 hb, cell_below (w := wA.drew) p1 hb, ?_, h2.frozen _, (FA.new (But.drew wA)).new (But.below hb), h2⟩
  rw [hc]
  exact h2.cell (by omega)

/-- One more end is counted. -/
theorem count_rel {W7 w2 : World} {go k e p cc : Nat} {U V : Nat → Nat} (hn : node U V e = p) (hc : cc = cell1 U V e (p + 1)) (R : But [go] W7 w2 ∧ RowF w2 go 21 (k + 1) (fun j => .int .i32 (cell1 U V e j : Nat))) :
    But [go] W7 (w2.setCell ⟨go, p + 1, none⟩ (.int .i32 ((cc : Int) + 1))) ∧ RowF (w2.setCell ⟨go, p + 1, none⟩ (.int .i32 ((cc : Int) + 1))) go 21 (k + 1) (fun j => .int .i32 (cell1 U V (e + 1) j : Nat)) := by
  refine ⟨R.1.trans (But.setCell w2 go (p + 1) _), R.2.store (p + 1) _ (fun _ => ?_) (fun j _ hj => ?_)⟩
  · subst hn
    rw [cell1_at, ← hc]
    simp
  · rw [cell1_step U V e j (by rw [hn]; exact hj)]

/-- The row of neighbours is made and hung in. -/
theorem fresh_adj (wz : World) (G M : Nat) (a b u : Value) (hG : RowF wz G 76 3 (fun j => [a, b, .slice none 0 0].getD j undef)) :
    RowF ((wz.setCell ⟨G, 2, none⟩ u).alloc (.cells (madeCells #[.int .i32 0] M) 21)).drew G 76 3 (fun j => [a, b, u].getD j undef) ∧
    RowF ((wz.setCell ⟨G, 2, none⟩ u).alloc (.cells (madeCells #[.int .i32 0] M) 21)).drew wz.heap.size 21 M (fun _ => .int .i32 0) ∧
    But [G] wz ((wz.setCell ⟨G, 2, none⟩ u).alloc (.cells (madeCells #[.int .i32 0] M) 21)).drew := by
  refine ⟨((hG.store 2 u (fun _ => rfl) (fun j h1 h2 => ?_)).alloc _).drew, ?_, ((But.setCell wz G 2 _).new (But.alloc _ _)).new (But.drew _)⟩
  · have : j = 0 ∨ j = 1 := by omega
    rcases this with rfl | rfl <;> rfl
  · have hs : (wz.setCell ⟨G, 2, none⟩ u).heap.size = wz.heap.size := by simp
    rw [← hs]
    refine RowF.drew ⟨_, heap_alloc_new _ _, by rw [size_madeCells], fun j hj => ?_⟩
    simp [madeCells, hj, Nat.mod_one]

/-- What fromLinks leaves. -/
def FromOk (w w' : World) (g : Nat) (d : Array (Int × Int)) (G : Nat) : Prop :=
  ∃ (gi go ga n M : Nat) (I : Array Int) (O : Nat → Nat) (A : Nat → Int), But [g] w w' ∧
    RowF w' G 76 3 (fun j => [.slice (some ⟨gi, 0, none⟩) n n, .slice (some ⟨go, 0, none⟩) (n + 1) (n + 1), .slice (some ⟨ga, 0, none⟩) M M].getD j undef) ∧
    Arr w' (some ⟨gi, 0, none⟩) n .u64 (fun j => I[j]!) ∧ Arr w' (some ⟨go, 0, none⟩) (n + 1) .i32 (fun j => (O j : Int)) ∧ Arr w' (some ⟨ga, 0, none⟩) M .i32 A ∧
    M = O n ∧ n ≤ 4096 ∧ M ≤ 4096 ∧ (∀ s t, s < t → t < n → I[s]! < I[t]!) ∧ (∀ x, (∃ t, t < n ∧ I[t]! = x) ↔ ∃ y ∈ d, y.1 = x ∨ y.2 = x) ∧ Csr n (Rel d I n) O A

end Go.Proofs.Ybulkdtni.lawS6014CWhole
