/-
  Plain: a sorted row, its repeats dropped in place.
-/
import Derived.Test.YbulkdtniPdq
namespace Go.Proofs.Ybulkdtni.lawS6014CWhole
open Go.Sort (SortedIn SWO)

/-- An order in which 'neither is less' means 'equal'. -/
structure Total {α : Type} (lt : α → α → Bool) : Prop where
  swo : SWO lt
  eq : ∀ x y, lt x y = false → lt y x = false → x = y

/-- The first i of d are read; the first k of D hold their distinct values in order; the rest is as it was. -/
structure Ded {α : Type} [Inhabited α] (lt : α → α → Bool) (d D : Array α) (i k : Nat) : Prop where
  size : D.size = d.size
  ki : k ≤ i
  iSize : i ≤ d.size
  rest : ∀ t, k ≤ t → D[t]! = d[t]!
  strict : ∀ s t, s < t → t < k → lt D[s]! D[t]! = true
  mem : ∀ v, (∃ t, t < i ∧ d[t]! = v) ↔ (∃ t, t < k ∧ D[t]! = v)
  last : 0 < i → 0 < k ∧ D[k - 1]! = d[i - 1]!

variable {α : Type} [Inhabited α] {lt : α → α → Bool} {d D : Array α} {i k : Nat}

theorem Ded.start (lt : α → α → Bool) (d : Array α) : Ded lt d d 0 0 :=
  ⟨rfl, Nat.le_refl _, Nat.zero_le _, fun _ _ => rfl, fun s t h1 h2 => by omega, fun v => ⟨fun ⟨t, h, _⟩ => by omega, fun ⟨t, h, _⟩ => by omega⟩, fun h => by omega⟩

/-- What is read next repeats the last: nothing is written. -/
theorem Ded.skip (h : Ded lt d D i k) (hi : i < d.size) (h0 : 0 < i) (he : d[i]! = D[k - 1]!) : Ded lt d D (i + 1) k := by
  obtain ⟨hk, hl⟩ := h.last h0
  refine ⟨h.size, by have := h.ki; omega, by omega, h.rest, h.strict, fun v => ⟨fun ⟨t, ht, hv⟩ => ?_, fun hm => ?_⟩, fun _ => ⟨hk, by rw [Nat.add_sub_cancel]; exact he.symm⟩⟩
  · by_cases e : t = i
    · subst e; exact ⟨k - 1, by omega, by rw [← he]; exact hv⟩
    · exact (h.mem v).1 ⟨t, by omega, hv⟩
  · obtain ⟨t, ht, hv⟩ := (h.mem v).2 hm
    exact ⟨t, by omega, hv⟩

theorem set_at (D : Array α) (k : Nat) (x : α) (h : k < D.size) : (D.setIfInBounds k x)[k]! = x := by
  rw [getElem!_pos (D.setIfInBounds k x) k (by simpa using h)]; simp
theorem set_off (D : Array α) (k : Nat) (x : α) (t : Nat) (h : t ≠ k) : (D.setIfInBounds k x)[t]! = D[t]! := Sort.getElem!_set_other D k t x h

/-- What is read next is new: it is written. -/
theorem Ded.keep (h : Ded lt d D i k) (hT : Total lt) (hs : SortedIn lt 0 d.size d) (hi : i < d.size) (hne : i = 0 ∨ d[i]! ≠ D[k - 1]!) : Ded lt d (D.setIfInBounds k d[i]!) (i + 1) (k + 1) := by
  have hki := h.ki
  have hkD : k < D.size := by rw [h.size]; omega
  have hgt : ∀ s, s < k → lt D[s]! d[i]! = true := by
    intro s hsk
    have h0 : 0 < i := by omega
    obtain ⟨hk, hl⟩ := h.last h0
    have hle : lt d[i]! d[i - 1]! = false := hs (i - 1) i (by omega) (by omega) hi
    have hlt : lt d[i - 1]! d[i]! = true := by
      cases hc : lt d[i - 1]! d[i]! with
      | true => rfl
      | false =>
        have := hT.eq _ _ hle hc
        rcases hne with h | h
        · omega
        · exact absurd (by rw [hl]; exact this) h
    by_cases e : s = k - 1
    · rw [e, hl]; exact hlt
    · have := h.strict s (k - 1) (by omega) (by omega)
      rw [hl] at this
      exact hT.swo.trans _ _ _ this hlt
  refine ⟨by simpa using h.size, by omega, by omega, fun t ht => ?_, fun s t h1 h2 => ?_, fun v => ⟨fun ⟨t, ht, hv⟩ => ?_, fun ⟨t, ht, hv⟩ => ?_⟩, fun _ => ⟨by omega, ?_⟩⟩
  · rw [set_off D k _ t (by omega)]; exact h.rest t (by omega)
  · by_cases e : t = k
    · subst e
      rw [set_at D t _ hkD, set_off D t _ s (by omega)]
      exact hgt s (by omega)
    · rw [set_off D k _ s (by omega), set_off D k _ t e]
      exact h.strict s t h1 (by omega)
  · by_cases e : t = i
    · subst e; exact ⟨k, by omega, by rw [set_at D k _ hkD]; exact hv⟩
    · obtain ⟨t', ht', hv'⟩ := (h.mem v).1 ⟨t, by omega, hv⟩
      exact ⟨t', by omega, by rw [set_off D k _ t' (by omega)]; exact hv'⟩
  · by_cases e : t = k
    · subst e
      rw [set_at D t _ hkD] at hv
      exact ⟨i, by omega, hv⟩
    · rw [set_off D k _ t e] at hv
      obtain ⟨t', ht', hv'⟩ := (h.mem v).2 ⟨t, by omega, hv⟩
      exact ⟨t', by omega, hv'⟩
  · rw [Nat.add_sub_cancel, Nat.add_sub_cancel, set_at D k _ hkD]

theorem total_int : Total Go.Sort.ltInt := ⟨Sort.swo_ltInt, fun x y h1 h2 => by
  have a := ltInt_false.1 h1
  have b := ltInt_false.1 h2
  omega⟩

/-- Two strictly ascending rows with the same values are the same. -/
theorem strict_unique {D D' : Array α} {m m' : Nat} (hT : Total lt) (h1 : ∀ s t, s < t → t < m → lt D[s]! D[t]! = true) (h2 : ∀ s t, s < t → t < m' → lt D'[s]! D'[t]! = true)
    (hm : ∀ v, (∃ t, t < m ∧ D[t]! = v) ↔ (∃ t, t < m' ∧ D'[t]! = v)) : m = m' ∧ ∀ t, t < m → D[t]! = D'[t]! := by
  have irr := hT.swo.irrefl
  -- the rows agree up to every place that both have
  have key : ∀ t, t < m → t < m' → (∀ s, s < t → D[s]! = D'[s]!) → D[t]! = D'[t]! := by
    intro t a b ih
    obtain ⟨j, hj, ej⟩ := (hm D[t]!).1 ⟨t, a, rfl⟩
    obtain ⟨j', hj', ej'⟩ := (hm D'[t]!).2 ⟨t, b, rfl⟩
    have g1 : t ≤ j := by
      rcases Nat.lt_or_ge j t with c | c
      · have x := h1 j t c a
        rw [ih j c, ej, irr] at x; cases x
      · exact c
    have g2 : t ≤ j' := by
      rcases Nat.lt_or_ge j' t with c | c
      · have x := h2 j' t c b
        rw [← ih j' c, ej', irr] at x; cases x
      · exact c
    rcases Nat.lt_or_ge t j with c | c
    · have x := h2 t j c hj
      rw [ej] at x
      rcases Nat.lt_or_ge t j' with c' | c'
      · have y := h1 t j' c' hj'
        rw [ej'] at y
        have := hT.swo.trans _ _ _ x y
        rw [irr] at this; cases this
      · have : j' = t := by omega
        rw [this] at ej'; exact ej'
    · have : j = t := by omega
      rw [this] at ej; exact ej.symm
  have all : ∀ t, t < m → t < m' → D[t]! = D'[t]! := by
    intro t
    induction t using Nat.strongRecOn with
    | _ t ih => intro a b; exact key t a b (fun s hs => ih s hs (by omega) (by omega))
  have le1 : m ≤ m' := by
    rcases Nat.lt_or_ge m' m with c | c
    · obtain ⟨j, hj, ej⟩ := (hm D[m']!).1 ⟨m', c, rfl⟩
      have x := h1 j m' hj c
      rw [all j (by omega) hj, ej, irr] at x; cases x
    · exact c
  have le2 : m' ≤ m := by
    rcases Nat.lt_or_ge m m' with c | c
    · obtain ⟨j, hj, ej⟩ := (hm D'[m]!).2 ⟨m, c, rfl⟩
      have x := h2 j m hj c
      rw [← all j hj (by omega), ej, irr] at x; cases x
    · exact c
  exact ⟨by omega, fun t ht => all t ht (by omega)⟩

end Go.Proofs.Ybulkdtni.lawS6014CWhole
