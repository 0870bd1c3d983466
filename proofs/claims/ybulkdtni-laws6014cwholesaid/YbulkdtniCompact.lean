/-
  slices.Compact at uint64: the shelf's contract laid at this dump; on a sorted row: the distinct values in order.
-/
import Derived.Test.YbulkdtniDed
import Derived.Test.YbulkdtniSlice
import Derived.Shelf.SlicesE.Compact
import Derived.Shelf.SlGeneric
import Derived.Ground.SlgnProg
namespace Go.Proofs
open Go.Shelf
shelf_lay_g SlLaysE.n43 Slgn 43 at Yba 9 as Yba.cmp9
end Go.Proofs
namespace Go.Proofs.Ybulkdtni.lawS6014CWhole
open Go.Shelf Go.RowKit Go.Proofs.Ybulkdtni.Own Go.Lib
open Go.Sort (ltInt PermIn SortedIn SWO putRow putCells Holds grow)

/-- The distinct values of a sorted row, in order. -/
theorem compact_spec (d : Array Int) (hs : SortedIn ltInt 0 d.size d) : ∀ m, m ≤ d.size →
    (compactUpTo d m).Pairwise (fun x y => x < y) ∧ (∀ v, v ∈ compactUpTo d m ↔ ∃ t, t < m ∧ d[t]! = v) ∧ (∀ v ∈ compactUpTo d m, 0 < m ∧ v ≤ d[m - 1]!)
  | 0, _ => ⟨by simp [compactUpTo], fun v => by simp [compactUpTo], fun v hv => by simp [compactUpTo] at hv⟩
  | m + 1, hm => by
    obtain ⟨h1, h2, h3⟩ := compact_spec d hs m (by omega)
    rw [compactUpTo_succ]
    have hle : ∀ t, t ≤ m → d[t]! ≤ d[m]! := by
      intro t ht
      rcases Nat.lt_or_ge t m with h | h
      · exact ltInt_false.1 (hs t m (by omega) h (by omega))
      · have : t = m := by omega
        rw [this]; exact Int.le_refl _
    by_cases hk : keeps d m = true
    · rw [if_pos hk]
      have hgt : ∀ v ∈ compactUpTo d m, v < d[m]! := by
        intro v hv
        obtain ⟨hm0, hv'⟩ := h3 v hv
        have hne : d[m]! ≠ d[m - 1]! := by
          intro he
          simp [keeps, he] at hk
          omega
        have := hle (m - 1) (by omega)
        omega
      refine ⟨?_, fun v => ?_, fun v hv => ?_⟩
      · rw [List.pairwise_append]
        exact ⟨h1, by simp, fun x hx y hy => by simp at hy; rw [hy]; exact hgt x hx⟩
      · rw [List.mem_append, h2]
        constructor
        · rintro (⟨t, ht, hv⟩ | hv)
          · exact ⟨t, by omega, hv⟩
          · simp at hv; exact ⟨m, by omega, hv.symm⟩
        · rintro ⟨t, ht, hv⟩
          by_cases e : t = m
          · subst e; exact Or.inr (by simp [hv])
          · exact Or.inl ⟨t, by omega, hv⟩
      · refine ⟨by omega, ?_⟩
        rw [Nat.add_sub_cancel]
        rcases List.mem_append.1 hv with h | h
        · exact Int.le_of_lt (hgt v h)
        · simp at h; rw [h]; exact Int.le_refl _
    · have hk' : keeps d m = false := by simpa using hk
      rw [if_neg hk, List.append_nil]
      have hm0 : 0 < m := by
        rcases Nat.eq_zero_or_pos m with h | h
        · subst h; simp [keeps] at hk'
        · exact h
      have he : d[m]! = d[m - 1]! := by
        simp [keeps] at hk'
        exact hk'.2
      refine ⟨h1, fun v => ?_, fun v hv => ?_⟩
      · rw [h2]
        constructor
        · rintro ⟨t, ht, hv⟩; exact ⟨t, by omega, hv⟩
        · rintro ⟨t, ht, hv⟩
          by_cases e : t = m
          · subst e; exact ⟨t - 1, by omega, by rw [← he]; exact hv⟩
          · exact ⟨t, by omega, hv⟩
      · refine ⟨by omega, ?_⟩
        rw [Nat.add_sub_cancel, he]
        exact (h3 v hv).2

/-- slices.Compact on a sorted row. -/
theorem compact9 (w : World) (g cap n c : Nat) (tl : Nat → Value) (d : Array Int) (h0 : St w w g cap n tl d) (hs : SortedIn ltInt 0 n d) (hn : n ≤ 1048576) (hc : n ≤ c) :
    Calls Yba.prog 9 #[.slice (some ⟨g, 0, none⟩) n c] w fun e w' => ∃ (m : Nat) (D : Array Int) (f' : Nat → Value), e = .returned (.slice (some ⟨g, 0, none⟩) m c) ∧ m ≤ n ∧ D.size = m ∧ Only g w w' ∧ RowF w' g 24 cap f' ∧ (∀ j, j < m → f' j = .int .u64 D[j]!) ∧
      (∀ s t, s < t → t < m → ltInt D[s]! D[t]! = true) ∧ (∀ v, (∃ t, t < n ∧ d[t]! = v) ↔ (∃ t, t < m ∧ D[t]! = v)) := by
  have hsz := h0.1
  have hH : Holds (Value.int .u64) w g 0 d := holds_row (Value.int .u64) 0 d h0.2.2.1 (by have := h0.2.1; omega) (fun j hj => by rw [Nat.zero_add, if_pos (by omega)])
  have hS := AnyE.slices_Compact Yba.cmp9 (Value.int .u64) (fun _ => rfl) (EqlAt.intD _ _ .u64) (NeqAt.intD _ _ .u64) 0 (fun _ => by kernel_rfl) g 0 c d w hH (by omega) (by omega)
  change Calls Yba.prog 9 _ _ _ at hS
  rw [hsz] at hS
  refine hS.mono ?_
  rintro e w' ⟨rfl, q, rfl⟩
  obtain ⟨h1, h2, _⟩ := compact_spec d (by rw [hsz]; exact hs) n (by omega)
  generalize hC : compactUpTo d n = C at h1 h2 ⊢
  have hlen : C.length ≤ n := by
    rw [← hC]
    unfold compactUpTo
    rw [List.length_map]
    exact Nat.le_trans (List.length_filter_le _ _) (by simp)
  have hat : ∀ t, t < C.length → C.toArray[t]! = C[t]! := fun t ht => by simp
  have ho := only_sorted (Value.int .u64) w g 0 (C ++ List.replicate (n - C.length) (0 : Int)).toArray q #[] h0.lt
  have hr := row_sorted (Value.int .u64) 0 (C ++ List.replicate (n - C.length) (0 : Int)).toArray q #[] h0.2.2.1
  rw [Sort.grow_empty] at ho hr
  refine ⟨C.length, C.toArray, _, rfl, hlen, by simp, ho, hr, fun j hj => ?_, fun s t hst ht => ?_, fun v => ?_⟩
  · have hj2 : j < (C ++ List.replicate (n - C.length) (0 : Int)).toArray.size := by simp; omega
    rw [if_pos ⟨Nat.zero_le _, by omega⟩, Nat.sub_zero]
    congr 1
    rw [getElem!_pos _ j hj2, getElem!_pos C.toArray j (by simpa using hj)]
    simp [List.getElem_append_left hj]
  · rw [getElem!_pos C.toArray s (by simp; omega), getElem!_pos C.toArray t (by simpa using ht)]
    simp only [List.getElem_toArray]
    exact ltInt_true.2 (List.pairwise_iff_getElem.1 h1 s t (by omega) ht hst)
  · rw [← h2 v, List.mem_iff_getElem]
    constructor
    · rintro ⟨t, ht, hv⟩
      exact ⟨t, ht, by rw [getElem!_pos C.toArray t (by simpa using ht)]; simpa using hv⟩
    · rintro ⟨t, ht, hv⟩
      rw [getElem!_pos C.toArray t (by simpa using ht)] at hv
      exact ⟨t, ht, by simpa using hv⟩

end Go.Proofs.Ybulkdtni.lawS6014CWhole
