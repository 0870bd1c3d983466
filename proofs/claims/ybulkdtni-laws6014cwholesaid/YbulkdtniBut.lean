/-
  Frames: all blocks but the named ones lie as they lay. Rows that 'append' grows. Membership in a row.
-/
import Derived.Test.YbulkdtniAll
import Derived.Test.YbulkdtniMake
import Derived.Test.YbulkdtniSearch
import Derived.Laws.AppendOwn
namespace Go.Proofs.Ybulkdtni.lawS6014CWhole
open Go.RowKit Go.Proofs.Ybulkdtni.Own
open Go.Sort (ltInt PermIn SortedIn)

/-- All old blocks but those of 'xs' lie as they lay. -/
structure But (xs : List Nat) (w w' : World) : Prop where
  os : w'.os = w.os
  tape : w'.tape = w.tape
  output : w'.output = w.output
  size : w.heap.size ≤ w'.heap.size
  block : ∀ b, b < w.heap.size → b ∉ xs → w'.heap[b]? = w.heap[b]?

theorem But.refl (xs : List Nat) (w : World) : But xs w w := ⟨rfl, rfl, rfl, Nat.le_refl _, fun _ _ _ => rfl⟩
/-- A further step: what it turns is named, or new. -/
theorem But.step {xs ys : List Nat} {a b c : World} (h : But xs a b) (k : But ys b c) (hy : ∀ y ∈ ys, y ∈ xs ∨ a.heap.size ≤ y) : But xs a c :=
  ⟨k.os.trans h.os, k.tape.trans h.tape, k.output.trans h.output, Nat.le_trans h.size k.size, fun x hx hn => (k.block x (Nat.lt_of_lt_of_le hx h.size) (fun hm => by
    rcases hy x hm with h1 | h1
    · exact hn h1
    · omega)).trans (h.block x hx hn)⟩
theorem But.trans {xs : List Nat} {a b c : World} (h : But xs a b) (k : But xs b c) : But xs a c := h.step k (fun _ hy => Or.inl hy)
theorem But.new {xs : List Nat} {a b c : World} (h : But xs a b) (k : But [] b c) : But xs a c := h.step k (fun _ hy => by cases hy)
theorem But.drewN (w : World) (q : Nat) : But [] w (w.drewN q) := ⟨rfl, rfl, rfl, Nat.le_refl _, fun _ _ _ => rfl⟩
theorem But.drew (w : World) : But [] w w.drew := But.drewN w 1
theorem But.alloc (w : World) (o : Obj) : But [] w (w.alloc o) := ⟨rfl, rfl, rfl, by simp, fun b hb _ => Below.heap_alloc w o b hb⟩
theorem But.setCell (w : World) (g j : Nat) (u : Value) : But [g] w (w.setCell ⟨g, j, none⟩ u) :=
  have h : Below 0 w (w.setCell ⟨g, j, none⟩ u) := (Below.refl 0 w).setCell (Nat.zero_le _) u
  ⟨h.os, h.tape, h.output, h.size, fun b _ hn => Below.heap_setCell _ _ _ _ (fun e => hn (by simp [e]))⟩
theorem But.only {g : Nat} {w w' : World} (h : Only g w w') : But [g] w w' := ⟨h.1.os, h.1.tape, h.1.output, h.1.size, fun b hb hn => h.2 b hb (fun e => hn (by simp [e]))⟩
theorem But.below {w w' : World} (h : Below w.heap.size w w') : But [] w w' := ⟨h.os, h.tape, h.output, h.size, fun b hb _ => h.block b hb⟩
theorem But.grown {w w' : World} {g : Nat} (h : w.grownBy w' (some g)) : But [g] w w' := ⟨h.os, h.tape, h.output, h.size, fun b hb hn => h.block b hb (fun e => hn (by simp at e; simp [e]))⟩
theorem But.grown0 {w w' : World} (h : w.grownBy w' none) : But [] w w' := ⟨h.os, h.tape, h.output, h.size, fun b hb _ => h.block b hb (by simp)⟩
theorem But.toOnly {g : Nat} {w w' : World} (h : But [g] w w') (hg : g ≤ w.heap.size) : Only g w w' := ⟨⟨h.os, h.tape, h.output, h.size, fun b hb => h.block b (by omega) (by simp; omega)⟩, fun b hb hn => h.block b hb (by simpa using hn)⟩
theorem But.toBelow {xs : List Nat} {w w' : World} (h : But xs w w') {B : Nat} (hB : B ≤ w.heap.size) (hx : ∀ x ∈ xs, B ≤ x) : Below B w w' := ⟨h.os, h.tape, h.output, h.size, fun b hb => h.block b (by omega) (fun hm => by have := hx b hm; omega)⟩

theorem RowF.but {w w' : World} {g : Nat} {e : TypeId} {n : Nat} {f : Nat → Value} {xs : List Nat} (h : RowF w g e n f) (k : But xs w w') (hn : g ∉ xs) : RowF w' g e n f := h.of_block (k.block g h.lt hn)

theorem But.cell {xs : List Nat} {w w' : World} (h : But xs w w') {b j : Nat} {v : Value} (hc : w.cell? ⟨b, j, none⟩ = some v) (hb : b ∉ xs) : w'.cell? ⟨b, j, none⟩ = some v :=
  (World.cell?_of_block (a := ⟨b, j, none⟩) (h.block b (World.block_lt_of_cell? w _ hc) hb)).trans hc

theorem LSt.start {w0 w : World} {g cap N : Nat} {tl : Nat → Value} {D : Array (Int × Int)} (h : LSt w0 w g cap N tl D) : LSt w w g cap N tl D := ⟨h.1, h.2.1, h.2.2.1, Only.refl _ _⟩
theorem LSt.but {w0 w w' : World} {g cap N : Nat} {tl : Nat → Value} {D : Array (Int × Int)} {xs : List Nat} (h : LSt w0 w g cap N tl D) (k : But xs w w') (hn : g ∉ xs) : LSt w' w' g cap N tl D := ⟨h.1, h.2.1, RowF.but h.2.2.1 k hn, Only.refl _ _⟩
theorem St.but {w0 w w' : World} {g cap N : Nat} {tl : Nat → Value} {D : Array Int} {xs : List Nat} (h : St w0 w g cap N tl D) (k : But xs w w') (hn : g ∉ xs) : St w' w' g cap N tl D := ⟨h.1, h.2.1, RowF.but h.2.2.1 k hn, Only.refl _ _⟩

/-! A row of integers that 'append' grows. -/

/-- The slice v holds the integers of D, in a block of its own at or behind 'base'. -/
def Grow (w : World) (base : Nat) (e : TypeId) (k : IntKind) (v : Value) (D : Array Int) : Prop := w.ownsRow base e 1 v D.size (D.toList.map (Value.int k))

theorem Grow.nil (w : World) (base : Nat) (e : TypeId) (k : IntKind) : Grow w base e k (.slice none 0 0) #[] := World.ownsRow_nil w base e 1

theorem Grow.made {w : World} {g base cap : Nat} {e : TypeId} {k : IntKind} {f : Nat → Value} (h : RowF w g e cap f) (hb : base ≤ g) (hm : cap ≤ maxLen) : Grow w base e k (.slice (some ⟨g, 0, none⟩) 0 cap) #[] := by
  obtain ⟨cs, hc, hn, _⟩ := h
  exact ⟨by simp, .inr ⟨g, cap, cs, rfl, hb, hc, Nat.zero_le _, hm, by omega, by simp⟩⟩

/-- The two shapes. -/
theorem Grow.cases {w : World} {base : Nat} {e : TypeId} {k : IntKind} {v : Value} {D : Array Int} (h : Grow w base e k v D) :
    (v = .slice none 0 0 ∧ D = #[]) ∨ ∃ (g cap : Nat) (tl : Nat → Value), v = .slice (some ⟨g, 0, none⟩) D.size cap ∧ base ≤ g ∧ D.size ≤ cap ∧ cap ≤ maxLen ∧ RowF w g e cap (fun j => if j < D.size then .int k D[j]! else tl j) := by
  obtain ⟨_, h⟩ := h
  rcases h with ⟨rfl, h0⟩ | ⟨g, cap, cur, rfl, hb, hg, hn, hm, hs, ht⟩
  · exact Or.inl ⟨rfl, Array.eq_empty_of_size_eq_zero h0⟩
  · refine Or.inr ⟨g, cap, fun j => cur[j]!, rfl, hb, hn, hm, cur, hg, by omega, fun j hj => ?_⟩
    by_cases hjn : j < D.size
    · have h1 : (cur.toList.take (D.size * 1))[j]? = some (Value.int k D[j]!) := by
        rw [ht, List.getElem?_map, Array.getElem?_toList, Array.getElem?_eq_getElem hjn, getElem!_pos D j hjn]; rfl
      simp only [if_pos hjn]
      rw [← h1, List.getElem?_take, if_pos (by omega), Array.getElem?_toList]
    · simp only [if_neg hjn]
      rw [getElem!_pos cur j (by omega), Array.getElem?_eq_getElem (by omega)]

theorem Grow.but {w w' : World} {base : Nat} {e : TypeId} {k : IntKind} {v : Value} {D : Array Int} {xs : List Nat} (h : Grow w base e k v D) (hb : But xs w w') (hx : ∀ g, v.ownBlock = some g → g ∉ xs) : Grow w' base e k v D := by
  refine ⟨h.1, ?_⟩
  rcases h.2 with hn | ⟨g, cap, cur, rfl, hbg, hg, rest⟩
  · exact .inl hn
  · refine .inr ⟨g, cap, cur, rfl, hbg, ?_, rest⟩
    rw [hb.block g (Array.getElem?_eq_some_iff.1 hg).1 (hx g rfl)]
    exact hg

theorem Grow.lt {w : World} {base : Nat} {e : TypeId} {k : IntKind} {v : Value} {D : Array Int} (h : Grow w base e k v D) {g : Nat} (hg : v.ownBlock = some g) : base ≤ g ∧ g < w.heap.size := World.ownsRow.lt h g hg

/-- Its block is none of another type. -/
theorem Grow.ne {w : World} {base : Nat} {e : TypeId} {k : IntKind} {v : Value} {D : Array Int} (h : Grow w base e k v D) {b : Nat} {e' : TypeId} {n : Nat} {f : Nat → Value} (r : RowF w b e' n f) (hne : e ≠ e') : ∀ g, v.ownBlock = some g → g ≠ b := by
  intro g hg
  rcases h.cases with ⟨rfl, _⟩ | ⟨g', cap, tl, rfl, _, _, _, hr⟩
  · simp [Value.ownBlock] at hg
  · simp [Value.ownBlock] at hg
    subst hg
    exact hr.ne r hne

/-- What append turned. -/
theorem But.own {w w' : World} {v : Value} (h : w.grownBy w' v.ownBlock) {xs : List Nat} (hx : ∀ g, v.ownBlock = some g → g ∈ xs) : But xs w w' :=
  ⟨h.os, h.tape, h.output, h.size, fun b hb hn => h.block b hb (fun e => hn (hx b e.symm))⟩

/-- A row that append has grown: what it says of the slice. -/
theorem Grow.arr {w : World} {base : Nat} {e : TypeId} {k : IntKind} {v : Value} {D : Array Int} (h : Grow w base e k v D) : ∃ a cap, v = .slice a D.size cap ∧ D.size ≤ cap ∧ cap ≤ maxLen ∧ Arr w a D.size k (fun j => D[j]!) ∧ (a = none → D = #[] ∧ cap = 0) := by
  rcases h.cases with ⟨rfl, rfl⟩ | ⟨g, cap, tl, rfl, hb, hn, hm, hr⟩
  · exact ⟨none, 0, rfl, by simp, by simp, fun j hj => by simp at hj, fun _ => ⟨rfl, rfl⟩⟩
  · refine ⟨_, cap, rfl, hn, hm, fun j hj => ⟨g, 0, rfl, ?_⟩, fun h => by simp at h⟩
    have := hr.cell (j := j) (by omega)
    rw [if_pos hj] at this
    rw [Nat.zero_add]; exact this

/-- A block of another type lies still under append. -/
theorem Grow.keep {w w' : World} {base : Nat} {e : TypeId} {k : IntKind} {v : Value} {D : Array Int} (h : Grow w base e k v D) (hg : w.grownBy w' v.ownBlock) {b : Nat} {e' : TypeId} {n : Nat} {f : Nat → Value} (r : RowF w b e' n f) (hne : e ≠ e') : RowF w' b e' n f :=
  r.of_block (hg.block b r.lt (fun c => h.ne r hne b c.symm rfl))

/-- The frame of an append: its block is new to 'a'. -/
theorem Grow.frame {a w w' : World} {base : Nat} {e : TypeId} {k : IntKind} {v : Value} {D : Array Int} {xs : List Nat} (h : Grow w base e k v D) (hg : w.grownBy w' v.ownBlock) (hb : a.heap.size ≤ base) (hf : But xs a w) : But xs a w' :=
  ⟨hg.os.trans hf.os, hg.tape.trans hf.tape, hg.output.trans hf.output, Nat.le_trans hf.size hg.size, fun b hb' hn => (hg.block b (Nat.lt_of_lt_of_le hb' hf.size) (fun c => by
    have := (h.lt c.symm).1
    omega)).trans (hf.block b hb' hn)⟩

theorem Grow.slice {w : World} {base : Nat} {e : TypeId} {k : IntKind} {v : Value} {D : Array Int} (h : Grow w base e k v D) : ∃ a n cap, v = .slice a n cap := by
  obtain ⟨a, cap, rfl, _⟩ := h.arr
  exact ⟨a, _, cap, rfl⟩

/-! Membership. -/

theorem mem_iff {α : Type} [Inhabited α] {D : Array α} {x : α} : x ∈ D ↔ ∃ t, t < D.size ∧ D[t]! = x := by
  rw [Array.mem_iff_getElem]
  constructor
  · rintro ⟨t, ht, h⟩; exact ⟨t, ht, by rw [getElem!_pos D t ht]; exact h⟩
  · rintro ⟨t, ht, h⟩; exact ⟨t, ht, by rw [getElem!_pos D t ht] at h; exact h⟩

theorem perm_mem {α : Type} [Inhabited α] {d d' : Array α} {n : Nat} (hn : d.size = n) (h : PermIn 0 n d d') (x : α) : x ∈ d' ↔ x ∈ d := by
  have h1 : d'.size = n := by rw [h.1, hn]
  have h2 := h.2.2
  have e1 : d'.extract 0 n = d' := by rw [← h1]; simp
  have e2 : d.extract 0 n = d := by rw [← hn]; simp
  rw [e1, e2] at h2
  have := h2.mem_iff (a := x)
  simpa using this

end Go.Proofs.Ybulkdtni.lawS6014CWhole
