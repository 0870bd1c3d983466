/-
  What the loops of the law's model keep.
-/
import Derived.Test.YbulkdtniApp
namespace Go.Proofs.Ybulkdtni.lawS6014CWhole
open Go.RowKit Go.Proofs.Ybulkdtni.Own
open Go.Sort (ltInt PermIn SortedIn)

theorem wrap32b {x : Int} (h0 : 0 ≤ x) (h1 : x ≤ 2147483647) : IntKind.i32.wrap x = x := by simp [IntKind.wrap, IntKind.bits, IntKind.signed]; omega

/-- The model's ids are the graph's. -/
theorem ids_same {N n0 m m' : Nat} {D : Array (Int × Int)} {E E1 I I' : Array Int} (hN : N = D.size) (hE : ∀ x, x ∈ E ↔ ∃ t, t < N ∧ (D[t]!.1 = x ∨ D[t]!.2 = x)) (hn0 : n0 = E.size) (hP : PermIn 0 n0 E E1)
    (hme : ∀ v, (∃ t, t < n0 ∧ E1[t]! = v) ↔ (∃ t, t < m' ∧ I'[t]! = v)) (hst : ∀ s t, s < t → t < m' → ltInt I'[s]! I'[t]! = true) (sI : ∀ s t, s < t → t < m → I[s]! < I[t]!)
    (mI : ∀ x, (∃ t, t < m ∧ I[t]! = x) ↔ ∃ y ∈ D, y.1 = x ∨ y.2 = x) : m' = m ∧ ∀ t, t < m' → I'[t]! = I[t]! := by
  refine strict_unique total_int hst (fun s t h1 h2 => ltInt_true.2 (sI s t h1 h2)) (fun v => ?_)
  rw [← hme v, mI v]
  have h1 : (∃ t, t < n0 ∧ E1[t]! = v) ↔ v ∈ E := by
    rw [← perm_mem hn0.symm hP v, mem_iff, hP.1, ← hn0]
  rw [h1, hE v, hN]
  constructor
  · rintro ⟨t, ht, e⟩; exact ⟨D[t]!, mem_iff.2 ⟨t, ht, rfl⟩, e⟩
  · rintro ⟨y, hy, e⟩
    obtain ⟨t, ht, rfl⟩ := mem_iff.1 hy
    exact ⟨t, ht, e⟩

/-- Beside the model's loops: the row of offsets in g7, the neighbours so far in v14. -/
structure Bd (w7 wr : World) (g7 m i : Nat) (O : Nat → Nat) (v14 : Value) (B : Array Int) : Prop where
  but : But [g7] w7 wr
  lt : g7 < w7.heap.size
  off : RowF wr g7 21 (m + 1) (fun j => if j ≤ i then .int .i32 (O j : Nat) else .int .i32 0)
  adj : Grow wr w7.heap.size 21 .i32 v14 B

variable {w7 wr w' : World} {g7 m i : Nat} {O : Nat → Nat} {v14 : Value} {B : Array Int}

theorem Bd.new (h : Bd w7 wr g7 m i O v14 B) (hb : But [] wr w') : Bd w7 w' g7 m i O v14 B := ⟨h.but.new hb, h.lt, RowF.but h.off hb (by simp), h.adj.but hb (by simp)⟩

/-- Beside an append to a row of another type. -/
theorem Bd.keep (h : Bd w7 wr g7 m i O v14 B) {v : Value} {C : Array Int} (Q : Grow wr w7.heap.size 24 .u64 v C) (hg : wr.grownBy w' v.ownBlock) : Bd w7 w' g7 m i O v14 B :=
  ⟨Q.frame hg (Nat.le_refl _) h.but, h.lt, Q.keep hg h.off (by decide), Q.keepG hg h.adj (by decide)⟩

/-- Beside a call that turns one row of another type. -/
theorem Bd.only (h : Bd w7 wr g7 m i O v14 B) {gb n : Nat} {f : Nat → Value} (r : RowF wr gb 24 n f) (hb : w7.heap.size ≤ gb) (ho : Only gb wr w') : Bd w7 w' g7 m i O v14 B := by
  have hlt := h.lt
  refine ⟨h.but.step (But.only ho) (fun y hy => Or.inr (by simp at hy; omega)), h.lt, RowF.only h.off ho (by omega), h.adj.but (But.only ho) (fun g hg => ?_)⟩
  have := h.adj.ne r (by decide) g hg
  simpa using this

/-- An append to the neighbours. -/
theorem Bd.push (h : Bd w7 wr g7 m i O v14 B) {v' : Value} {B' : Array Int} (hg : wr.grownBy w' v14.ownBlock) (Q : Grow w' w7.heap.size 21 .i32 v' B') : Bd w7 w' g7 m i O v' B' := by
  have hlt := h.lt
  refine ⟨h.adj.frame hg (Nat.le_refl _) h.but, h.lt, h.off.of_block (hg.block g7 h.off.lt (fun c => ?_)), Q⟩
  have := (h.adj.lt c.symm).1
  omega

/-- The offsets' own append. -/
theorem Bd.offs (h : Bd w7 wr g7 m i O v14 B) (e : Nat) (hb : But [g7] wr w') (hr : RowF w' g7 21 (m + 1) (fun j => if j = i + 1 then .int .i32 (e : Int) else if j ≤ i then .int .i32 (O j : Nat) else .int .i32 0)) : Bd w7 w' g7 m (i + 1) (fun j => if j = i + 1 then e else O j) v14 B := by
  have hlt := h.lt
  refine ⟨h.but.trans hb, h.lt, hr.congr (fun j _ => ?_), h.adj.but hb (fun g hg => ?_)⟩
  · by_cases c : j = i + 1
    · subst c; simp
    · by_cases c2 : j ≤ i
      · have c3 : j ≤ i + 1 := by omega
        simp [c, c2, c3]
      · have c3 : ¬ j ≤ i + 1 := by omega
        simp [c, c2, c3]
  · have := (h.adj.lt hg).1
    simp; omega

theorem nb_step {D : Array (Int × Int)} {id x y : Int} {j : Nat} {C : Array Int} (hC : ∀ z, z ∈ C ↔ Nb D id j z) (hx : x = D[j]!.1) (hy : y = D[j]!.2) (hlt : x < y) :
    (x = id → ∀ z, z ∈ C ++ #[y] ↔ Nb D id (j + 1) z) ∧ (y = id → ∀ z, z ∈ C ++ #[x] ↔ Nb D id (j + 1) z) ∧ (x ≠ id → y ≠ id → ∀ z, z ∈ C ↔ Nb D id (j + 1) z) := by
  have split : ∀ z, Nb D id (j + 1) z ↔ Nb D id j z ∨ ((x = id ∧ y = z) ∨ (y = id ∧ x = z)) := fun z => by
    constructor
    · rintro ⟨t, ht, h⟩
      by_cases c : t = j
      · subst c; rw [← hx, ← hy] at h; exact Or.inr h
      · exact Or.inl ⟨t, by omega, h⟩
    · rintro (⟨t, ht, h⟩ | h)
      · exact ⟨t, by omega, h⟩
      · rw [hx, hy] at h; exact ⟨j, by omega, h⟩
  refine ⟨fun e z => ?_, fun e z => ?_, fun e1 e2 z => ?_⟩
  · rw [split z, Array.mem_append, hC z]
    have : ¬ y = id := by omega
    simp [e, this, eq_comm]
  · rw [split z, Array.mem_append, hC z]
    have : ¬ x = id := by omega
    simp [e, this, eq_comm]
  · rw [split z, hC z]
    simp [e1, e2]

theorem app_lt (B : Array Int) (p : Int) {t : Nat} (h : t < B.size) : (B ++ #[p])[t]! = B[t]! := by
  rw [getElem!_pos (B ++ #[p]) t (by simp; omega), getElem!_pos B t h, Array.getElem_append_left h]
theorem app_at (B : Array Int) (p : Int) : (B ++ #[p])[B.size]! = p := by
  rw [getElem!_pos (B ++ #[p]) B.size (by simp), Array.getElem_append_right (Nat.le_refl _)]
  simp

/-- Each id has a neighbour. -/
theorem nb_some {D : Array (Int × Int)} {I : Array Int} {m i : Nat} (mI : ∀ x, (∃ t, t < m ∧ I[t]! = x) ↔ ∃ y ∈ D, y.1 = x ∨ y.2 = x) (hi : i < m) : ∃ x, Nb D I[i]! D.size x := by
  obtain ⟨y, hy, e⟩ := (mI I[i]!).1 ⟨i, hi, rfl⟩
  obtain ⟨t, ht, rfl⟩ := mem_iff.1 hy
  rcases e with e | e
  · exact ⟨_, t, ht, Or.inl ⟨e, rfl⟩⟩
  · exact ⟨_, t, ht, Or.inr ⟨e, rfl⟩⟩

/-- A neighbour is an id. -/
theorem nb_id {D : Array (Int × Int)} {I : Array Int} {m : Nat} {id x : Int} {k : Nat} (hk : k ≤ D.size) (mI : ∀ x, (∃ t, t < m ∧ I[t]! = x) ↔ ∃ y ∈ D, y.1 = x ∨ y.2 = x) (h : Nb D id k x) : ∃ p, p < m ∧ I[p]! = x := by
  obtain ⟨t, ht, e⟩ := h
  refine (mI x).2 ⟨D[t]!, mem_iff.2 ⟨t, by omega, rfl⟩, ?_⟩
  rcases e with ⟨_, e⟩ | ⟨_, e⟩
  · exact Or.inr e
  · exact Or.inl e

end Go.Proofs.Ybulkdtni.lawS6014CWhole
