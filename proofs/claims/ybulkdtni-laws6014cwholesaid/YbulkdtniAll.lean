/-
  sort.Slice as fromLinks calls it, at every length.
-/
import Derived.Test.YbulkdtniDedup
namespace Go.Proofs.Ybulkdtni.lawS6014CWhole
open Go.RowKit Go.Proofs.Ybulkdtni.Own
open Go.Sort (ltInt PermIn SortedIn grow)

theorem sorted_few {α : Type} [Inhabited α] {lt : α → α → Bool} {N : Nat} {d : Array α} (h : N ≤ 1) : SortedIn lt 0 N d := fun i j h1 h2 h3 => by omega

theorem RowF.only {w w' : World} {g : Nat} {e : TypeId} {n : Nat} {f : Nat → Value} {g' : Nat} (h : RowF w g e n f) (ho : Only g' w w') (hne : g ≠ g') : RowF w' g e n f := h.of_block (ho.2 g h.lt hne)

/-- The links. -/
theorem sortLinks (w : World) (g cap N c Bs : Nat) (tl : Nat → Value) (d : Array (Int × Int)) (h0 : LSt w w g cap N tl d) (hN : N ≤ 1048576)
    (hBs : w.cell? ⟨Bs, 0, none⟩ = some (.slice (some ⟨g, 0, none⟩) N c)) (hB2 : Bs ≠ g) :
    Calls Yba.prog 13 #[.iface 61 (.slice (some ⟨g, 0, none⟩) N c), .func (.func 14) #[] #[.pointer (some ⟨Bs, 0, none⟩)]] w fun e w' =>
      e = .returned (.tuple #[]) ∧ ∃ D, LSt w w' g cap N tl D ∧ PermIn 0 N d D ∧ SortedIn ltL 0 N D := by
  obtain ⟨rfl, h2, h3, h4⟩ := h0
  by_cases h : 2 ≤ d.size
  · refine (slice14 w g cap c Bs _ d h hN h3 h2 (fun j hj => if_pos hj) hBs (World.block_lt_of_cell? w _ hBs) hB2).mono ?_
    rintro e w' ⟨rfl, D, hp, hs, ho, hr⟩
    exact ⟨rfl, D, ⟨hp.1, h2, hr.congr (fun k _ => by by_cases hk : k < d.size * 2 <;> simp [hk]), ho⟩, hp, hs⟩
  · refine (tiny14 w _ d.size c Bs (by omega)).mono ?_
    rintro e w' ⟨rfl, os, rfl⟩
    have ho := grow_only (w.heap.size) w os (Nat.le_refl _)
    exact ⟨rfl, d, ⟨rfl, h2, h3.of_block (ho.2 g h3.lt (by have := h3.lt; omega)), grow_only g w os (Nat.le_of_lt h3.lt)⟩, Sort.permIn_refl _ _ _, sorted_few (by omega)⟩

/-- The ids. -/
theorem sortIds (w : World) (g cap n c Bs : Nat) (tl : Nat → Value) (d : Array Int) (h0 : St w w g cap n tl d) (hn : n ≤ 1048576)
    (hBs : w.cell? ⟨Bs, 0, none⟩ = some (.slice (some ⟨g, 0, none⟩) n c)) (hB2 : Bs ≠ g) :
    Calls Yba.prog 13 #[.iface 68 (.slice (some ⟨g, 0, none⟩) n c), .func (.func 16) #[] #[.pointer (some ⟨Bs, 0, none⟩)]] w fun e w' =>
      e = .returned (.tuple #[]) ∧ ∃ D, St w w' g cap n tl D ∧ PermIn 0 n d D ∧ SortedIn ltInt 0 n D := by
  obtain ⟨rfl, h2, h3, h4⟩ := h0
  by_cases h : 2 ≤ d.size
  · refine (slice16 w g 0 cap c Bs _ d h hn h3 (by omega) (fun j hj => by rw [Nat.zero_add, if_pos hj]) hBs (World.block_lt_of_cell? w _ hBs) hB2).mono ?_
    rintro e w' ⟨rfl, D, hp, hs, ho, hr⟩
    exact ⟨rfl, D, ⟨hp.1, h2, hr.congr (fun k _ => by by_cases hk : k < d.size <;> simp [hk]), ho⟩, hp, hs⟩
  · refine (tiny16 w _ d.size c Bs (by omega)).mono ?_
    rintro e w' ⟨rfl, os, rfl⟩
    have ho := grow_only (w.heap.size) w os (Nat.le_refl _)
    exact ⟨rfl, d, ⟨rfl, h2, h3.of_block (ho.2 g h3.lt (by have := h3.lt; omega)), grow_only g w os (Nat.le_of_lt h3.lt)⟩, Sort.permIn_refl _ _ _, sorted_few (by omega)⟩

/-- A node's neighbours, a part of 'adj'. -/
theorem sortPart (w : World) (g off cap c Bs : Nat) (f : Nat → Value) (d : Array Int) (hsz : d.size ≤ 1048576) (hR : RowF w g 21 cap f) (hcap : off + d.size ≤ cap) (hf : ∀ j, j < d.size → f (off + j) = .int .i32 d[j]!)
    (hBs : w.cell? ⟨Bs, 0, none⟩ = some (.slice (some ⟨g, off, none⟩) d.size c)) (hB2 : Bs ≠ g) :
    Calls Yba.prog 13 #[.iface 71 (.slice (some ⟨g, off, none⟩) d.size c), .func (.func 19) #[] #[.pointer (some ⟨Bs, 0, none⟩)]] w fun e w' =>
      e = .returned (.tuple #[]) ∧ ∃ D : Array Int, PermIn 0 d.size d D ∧ SortedIn ltInt 0 d.size D ∧ Only g w w' ∧ RowF w' g 21 cap (fun k => if off ≤ k ∧ k < off + d.size then .int .i32 D[k - off]! else f k) := by
  by_cases h : 2 ≤ d.size
  · exact slice19 w g off cap c Bs f d h hsz hR hcap hf hBs (World.block_lt_of_cell? w _ hBs) hB2
  · refine (tiny19 w _ d.size c Bs (by omega)).mono ?_
    rintro e w' ⟨rfl, os, rfl⟩
    have ho := grow_only (w.heap.size) w os (Nat.le_refl _)
    refine ⟨rfl, d, Sort.permIn_refl _ _ _, sorted_few (by omega), grow_only g w os (Nat.le_of_lt hR.lt), ?_⟩
    refine (hR.of_block (ho.2 g hR.lt (by have := hR.lt; omega))).congr (fun k _ => ?_)
    by_cases hk : off ≤ k ∧ k < off + d.size
    · rw [if_pos hk, ← hf (k - off) (by omega), show off + (k - off) = k by omega]
    · rw [if_neg hk]

end Go.Proofs.Ybulkdtni.lawS6014CWhole
