/-
  'append' onto a row of integers, and onto a row of links, that the call itself owns.
-/
import Derived.Test.YbulkdtniBut
namespace Go.Proofs.Ybulkdtni.lawS6014CWhole
open Go.RowKit Go.Proofs.Ybulkdtni.Own

theorem wpList_grow {P : Program} {w : World} {ops : Array Oper} {rest : List Oper} {o : Oper} {a : Act} {Q : Exit → Act → World → Prop} (hgd : o.guard = none) (s x : Operand) (t : TypeId)
    (ho : o.op = .call { callee := .builtin .append, args := #[s, x], argTypes := #[t, t] })
    (base : Nat) (e : TypeId) (k : IntKind) (z : Int) (bytes : Nat) (ht : P.underlying t = some (.slice e)) (hinfo : (P.info? e).map (fun i => (i.zero, i.size, i.bytes)) = some (some (.int k z), 1, bytes))
    (v : Value) (D : Array Int) (hs : a.eval s = v) (hown : Grow w base e k v D)
    (ad : Addr) (m c : Nat) (E : Array Int) (hE : E.size = m) (hx : a.eval x = .slice (some ad) m c) (hnews : ∀ j, j < m → w.cell? (ad.add j) = some (.int k E[j]!))
    (hbytes : (D.size + m) * bytes ≤ 140737488355328) (h63 : D.size + m ≤ maxLen) (hbase : base ≤ w.heap.size)
    (h : ∀ v' w', Grow w' base e k v' (D ++ E) → w.grownBy w' v.ownBlock → (v' = .slice none 0 0 → v = .slice none 0 0 ∧ m = 0) → wpList P ops Q rest (a.put o.dst v') w') : wpList P ops Q (o :: rest) a w := by
  obtain ⟨i, hi, hz0, hz1, hz2⟩ := info_parts hinfo
  subst hE
  refine wpList_append_own w hgd s x t ho base e i (.int k z) 1 bytes ht hi hz0 hz1 hz2 rfl (by decide) v D.size _ hs hown ad E.size c (E.toList.map (Value.int k)) hx (by simp) ?_ ?_ h63 hbytes hbase ?_
  · intro j u hu
    rw [List.getElem?_map, Array.getElem?_toList] at hu
    by_cases hj : j < E.size
    · rw [Array.getElem?_eq_getElem hj] at hu
      simp only [Option.map_some, Option.some.injEq] at hu
      rw [hnews j hj, getElem!_pos E j hj, hu]
    · rw [Array.getElem?_eq_none (by omega)] at hu
      simp at hu
  · intro u hu
    obtain ⟨y, _, rfl⟩ := List.mem_map.1 hu
    rfl
  · intro v' w' h1 h2 h3
    refine h v' w' ?_ h2 h3.1
    unfold Grow
    rw [Array.size_append, Array.toList_append, List.map_append]
    exact h1

/-! Links. -/

def two (p : Int × Int) : List Value := [.int .u64 p.1, .int .u64 p.2]

/-- The slice v holds the links of D, in a block of its own at or behind 'base'. -/
def GrowL (w : World) (base : Nat) (v : Value) (D : Array (Int × Int)) : Prop := w.ownsRow base 65 2 v D.size (D.toList.flatMap two)

theorem flat_len (l : List (Int × Int)) : (l.flatMap two).length = l.length * 2 := by
  induction l with
  | nil => rfl
  | cons p r ih => simp only [List.flatMap_cons, List.length_append, ih, List.length_cons, two, List.length_nil]; omega

theorem flat_at : ∀ (l : List (Int × Int)) (j : Nat), j < l.length * 2 → (l.flatMap two)[j]? = some (linkCell l.toArray j)
  | [], j, h => by simp at h
  | p :: r, 0, h => by simp [two, linkCell]
  | p :: r, 1, h => by simp [two, linkCell]
  | p :: r, j + 2, h => by
    have ih := flat_at r j (by simp at h; omega)
    simp only [List.flatMap_cons, two, List.cons_append, List.nil_append, List.getElem?_cons_succ]
    rw [ih]
    unfold linkCell
    rw [show (j + 2) / 2 = j / 2 + 1 by omega, show (j + 2) % 2 = j % 2 by omega]
    simp

theorem GrowL.nil (w : World) (base : Nat) : GrowL w base (.slice none 0 0) #[] := World.ownsRow_nil w base 65 2

/-- The two shapes. -/
theorem GrowL.cases {w : World} {base : Nat} {v : Value} {D : Array (Int × Int)} (h : GrowL w base v D) :
    (v = .slice none 0 0 ∧ D = #[]) ∨ ∃ (g cap : Nat) (tl : Nat → Value), v = .slice (some ⟨g, 0, none⟩) D.size cap ∧ base ≤ g ∧ D.size ≤ cap ∧ cap ≤ maxLen ∧ LSt w w g (cap * 2) D.size tl D := by
  obtain ⟨_, h⟩ := h
  rcases h with ⟨rfl, h0⟩ | ⟨g, cap, cur, rfl, hb, hg, hn, hm, hs, ht⟩
  · exact Or.inl ⟨rfl, Array.eq_empty_of_size_eq_zero h0⟩
  · refine Or.inr ⟨g, cap, fun j => cur[j]!, rfl, hb, hn, hm, rfl, by omega, ⟨cur, hg, by omega, fun j hj => ?_⟩, Only.refl _ _⟩
    by_cases hjn : j < D.size * 2
    · have h1 := flat_at D.toList j (by simpa using hjn)
      rw [← ht, List.getElem?_take, if_pos hjn, Array.getElem?_toList] at h1
      simp only [if_pos hjn]
      exact h1
    · simp only [if_neg hjn]
      rw [getElem!_pos cur j (by omega), Array.getElem?_eq_getElem (by omega)]

theorem GrowL.made {w : World} {g base cap : Nat} {f : Nat → Value} (h : RowF w g 65 (cap * 2) f) (hb : base ≤ g) (hm : cap ≤ maxLen) : GrowL w base (.slice (some ⟨g, 0, none⟩) 0 cap) #[] := by
  obtain ⟨cs, hc, hn, _⟩ := h
  exact ⟨by simp, .inr ⟨g, cap, cs, rfl, hb, hc, Nat.zero_le _, hm, by omega, by simp⟩⟩

theorem GrowL.but {w w' : World} {base : Nat} {v : Value} {D : Array (Int × Int)} {xs : List Nat} (h : GrowL w base v D) (hb : But xs w w') (hx : ∀ g, v.ownBlock = some g → g ∉ xs) : GrowL w' base v D := by
  refine ⟨h.1, ?_⟩
  rcases h.2 with hn | ⟨g, cap, cur, rfl, hbg, hg, rest⟩
  · exact .inl hn
  · refine .inr ⟨g, cap, cur, rfl, hbg, ?_, rest⟩
    rw [hb.block g (Array.getElem?_eq_some_iff.1 hg).1 (hx g rfl)]
    exact hg

theorem GrowL.lt {w : World} {base : Nat} {v : Value} {D : Array (Int × Int)} (h : GrowL w base v D) {g : Nat} (hg : v.ownBlock = some g) : base ≤ g ∧ g < w.heap.size := World.ownsRow.lt h g hg

theorem wpList_growL {P : Program} {w : World} {ops : Array Oper} {rest : List Oper} {o : Oper} {a : Act} {Q : Exit → Act → World → Prop} (hgd : o.guard = none) (s x : Operand) (t : TypeId)
    (ho : o.op = .call { callee := .builtin .append, args := #[s, x], argTypes := #[t, t] })
    (base : Nat) (ht : P.underlying t = some (.slice 65)) (hinfo : (P.info? 65).map (fun i => (i.zero, i.size, i.bytes)) = some (some (.agg #[.int .u64 0, .int .u64 0]), 2, 16))
    (v : Value) (D : Array (Int × Int)) (hs : a.eval s = v) (hown : GrowL w base v D)
    (ad : Addr) (m c : Nat) (E : Array (Int × Int)) (hE : E.size = m) (hx : a.eval x = .slice (some ad) m c) (hnews : ∀ j, j < m * 2 → w.cell? (ad.add j) = some (linkCell E j))
    (hbytes : D.size + m ≤ 1048576) (hbase : base ≤ w.heap.size)
    (h : ∀ v' w', GrowL w' base v' (D ++ E) → w.grownBy w' v.ownBlock → (v' = .slice none 0 0 → v = .slice none 0 0 ∧ m = 0) → wpList P ops Q rest (a.put o.dst v') w') : wpList P ops Q (o :: rest) a w := by
  obtain ⟨i, hi, hz0, hz1, hz2⟩ := info_parts hinfo
  subst hE
  refine wpList_append_own w hgd s x t ho base 65 i (.agg #[.int .u64 0, .int .u64 0]) 2 16 ht hi hz0 hz1 hz2 rfl (by decide) v D.size _ hs hown ad E.size c (E.toList.flatMap two) hx (by rw [flat_len]; simp) ?_ ?_ (by unfold maxLen; omega) (by omega) hbase ?_
  · intro j u hu
    by_cases hj : j < E.size * 2
    · have h1 := flat_at E.toList j (by simpa using hj)
      rw [h1] at hu
      rw [hnews j hj]
      exact hu
    · rw [List.getElem?_eq_none (by rw [flat_len]; simp; omega)] at hu
      cases hu
  · intro u hu
    obtain ⟨y, _, hy⟩ := List.mem_flatMap.1 hu
    simp [two] at hy
    rcases hy with rfl | rfl <;> rfl
  · intro v' w' h1 h2 h3
    refine h v' w' ?_ h2 h3.1
    unfold GrowL
    rw [Array.size_append, Array.toList_append, List.flatMap_append]
    exact h1

end Go.Proofs.Ybulkdtni.lawS6014CWhole
