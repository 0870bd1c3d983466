/-
  Plain: from the sorted, shortened rows to the links' ends; one more step of the count.
-/
import Derived.Test.YbulkdtniPlain
namespace Go.Proofs.Ybulkdtni.lawS6014CWhole
open Go.RowKit Go.Proofs.Ybulkdtni.Own
open Go.Sort (ltInt PermIn SortedIn)

theorem mem_d {N m : Nat} {d D1 L : Array (Int × Int)} (hd : d.size = N) (hP : PermIn 0 N d D1) (hE : Ded ltL D1 L N m) (x : Int × Int) : x ∈ d ↔ ∃ t, t < m ∧ L[t]! = x := by
  rw [← hE.mem x, ← perm_mem hd hP x, mem_iff, hP.1, hd]

theorem ends_of {N m i k : Nat} {d D1 L : Array (Int × Int)} {D I0 J : Array Int} (hd : d.size = N) (hP : PermIn 0 N d D1) (hE : Ded ltL D1 L N m) (huv : ∀ x ∈ d, x.1 < x.2)
    (hM : ∀ x, x ∈ D ↔ ∃ t, t < m ∧ (L[t]!.1 = x ∨ L[t]!.2 = x)) (hDi : D.size = i) (hP6 : PermIn 0 i D I0) (hD : Ded ltInt I0 J i k) :
    (∀ x, (∃ t, t < k ∧ J[t]! = x) ↔ ∃ y ∈ d, y.1 = x ∨ y.2 = x) ∧ ∃ U V, Ends k m L J U V := by
  have hJ : ∀ x, (∃ t, t < k ∧ J[t]! = x) ↔ ∃ t, t < m ∧ (L[t]!.1 = x ∨ L[t]!.2 = x) := fun x => by
    rw [← hM x, ← hD.mem x, ← perm_mem hDi hP6 x, mem_iff, hP6.1, hDi]
  have hmem := mem_d hd hP hE
  refine ⟨fun x => ?_, ?_⟩
  · rw [hJ x]
    constructor
    · rintro ⟨t, ht, h⟩
      exact ⟨L[t]!, (hmem _).2 ⟨t, ht, rfl⟩, h⟩
    · rintro ⟨y, hy, h⟩
      obtain ⟨t, ht, rfl⟩ := (hmem y).1 hy
      exact ⟨t, ht, h⟩
  · have hU : ∀ t, ∃ p, t < m → p < k ∧ J[p]! = L[t]!.1 := fun t => by
      by_cases ht : t < m
      · obtain ⟨p, hp, h⟩ := (hJ L[t]!.1).2 ⟨t, ht, Or.inl rfl⟩
        exact ⟨p, fun _ => ⟨hp, h⟩⟩
      · exact ⟨0, fun h => absurd h ht⟩
    have hV : ∀ t, ∃ p, t < m → p < k ∧ J[p]! = L[t]!.2 := fun t => by
      by_cases ht : t < m
      · obtain ⟨p, hp, h⟩ := (hJ L[t]!.2).2 ⟨t, ht, Or.inr rfl⟩
        exact ⟨p, fun _ => ⟨hp, h⟩⟩
      · exact ⟨0, fun h => absurd h ht⟩
    refine ⟨fun t => Classical.choose (hU t), fun t => Classical.choose (hV t), ?_⟩
    refine ⟨fun t ht => (Classical.choose_spec (hU t) ht).1, fun t ht => (Classical.choose_spec (hV t) ht).1, fun t ht => (Classical.choose_spec (hU t) ht).2, fun t ht => (Classical.choose_spec (hV t) ht).2, fun t ht => huv _ ((hmem _).2 ⟨t, ht, rfl⟩), fun s t hs ht e => ?_, fun s t hst ht => ltInt_true.1 (hD.strict s t hst ht)⟩
    rcases Nat.lt_trichotomy s t with c | c | c
    · have := hE.strict s t c ht
      rw [e, total_ltL.swo.irrefl] at this; cases this
    · exact c
    · have := hE.strict t s c hs
      rw [e, total_ltL.swo.irrefl] at this; cases this

variable {n m : Nat} {L : Array (Int × Int)} {I : Array Int} {U V : Nat → Nat}

theorem Ends.lo (h : Ends n m L I U V) {p : Nat} (hp : p < n) : ∀ t, t < p → I[t]! < I[p]! := fun t ht => h.sI t p ht hp
theorem Ends.hi (h : Ends n m L I U V) {p : Nat} : ∀ t, p ≤ t → t < n → I[p]! ≤ I[t]! := fun t h1 h2 => by
  rcases Nat.lt_or_ge p t with c | c
  · exact Int.le_of_lt (h.sI p t c h2)
  · have : p = t := by omega
    rw [this]; exact Int.le_refl _

/-- What the row of counts holds when e steps are done. -/
def cell1 (U V : Nat → Nat) (e j : Nat) : Nat := if j = 0 then 0 else cnt (node U V) (j - 1) e

theorem cell1_step (U V : Nat → Nat) (e j : Nat) (hj : j ≠ node U V e + 1) : cell1 U V (e + 1) j = cell1 U V e j := by
  unfold cell1
  by_cases h : j = 0
  · rw [if_pos h, if_pos h]
  · rw [if_neg h, if_neg h, cnt, if_neg (by omega)]; rfl

theorem cell1_at (U V : Nat → Nat) (e : Nat) : cell1 U V (e + 1) (node U V e + 1) = cell1 U V e (node U V e + 1) + 1 := by
  unfold cell1
  rw [if_neg (by omega), if_neg (by omega), cnt, Nat.add_sub_cancel, if_pos rfl]

theorem cnt_le (node : Nat → Nat) (i e : Nat) : cnt node i e ≤ e := by
  induction e with
  | zero => exact Nat.le_refl _
  | succ e ih => rw [cnt]; split <;> omega

theorem cell1_le (U V : Nat → Nat) (e j : Nat) : cell1 U V e j ≤ e := by
  unfold cell1
  split
  · omega
  · exact cnt_le _ _ _

/-- What the row of offsets holds when v sums are done. -/
def cell2 (U V : Nat → Nat) (m v j : Nat) : Nat := if j ≤ v then offs U V m j else cnt (node U V) (j - 1) (2 * m)

theorem cell2_zero (U V : Nat → Nat) (m j : Nat) : cell2 U V m 0 j = cell1 U V (2 * m) j := by
  unfold cell2 cell1
  by_cases h : j = 0
  · subst h; rfl
  · rw [if_neg (by omega), if_neg h]

theorem cell2_step (U V : Nat → Nat) (m v j : Nat) (hj : j ≠ v + 1) : cell2 U V m (v + 1) j = cell2 U V m v j := by
  unfold cell2
  by_cases h : j ≤ v
  · rw [if_pos h, if_pos (by omega)]
  · rw [if_neg h, if_neg (by omega)]

theorem cell2_at (U V : Nat → Nat) (m v : Nat) : cell2 U V m (v + 1) (v + 1) = cell2 U V m v (v + 1) + cell2 U V m v v := by
  unfold cell2
  rw [if_pos (Nat.le_refl _), if_neg (by omega), if_pos (Nat.le_refl _), offs_succ, Nat.add_sub_cancel]
  omega

theorem Ends.offs_bound (h : Ends n m L I U V) {j : Nat} (hj : j ≤ n) : offs U V m j ≤ 2 * m := by
  have := offs_le (U := U) (V := V) (m := m) hj
  rw [h.total] at this
  exact this

theorem Ends.cell2_le (h : Ends n m L I U V) (v j : Nat) (hj : j ≤ n) : cell2 U V m v j ≤ 2 * m := by
  unfold cell2
  split
  · exact h.offs_bound hj
  · exact cnt_le _ _ _

/-- What 'next' holds when e steps are done. -/
def cell3 (U V : Nat → Nat) (m e j : Nat) : Nat := offs U V m j + cnt (node U V) j e

theorem cell3_step (U V : Nat → Nat) (m e j : Nat) (hj : j ≠ node U V e) : cell3 U V m (e + 1) j = cell3 U V m e j := by
  unfold cell3
  rw [cnt, if_neg (fun h => hj h.symm)]; rfl

theorem cell3_at (U V : Nat → Nat) (m e : Nat) : cell3 U V m (e + 1) (node U V e) = cell3 U V m e (node U V e) + 1 := by
  unfold cell3
  rw [cnt, if_pos rfl]
  omega

/-- The scatter, e steps done. -/
def Scat (U V : Nat → Nat) (m e : Nat) (A : Nat → Int) : Prop := ∀ e', e' < e → A (slot U V m e') = (node V U e' : Int)

theorem Scat.step {A A' : Nat → Int} {e : Nat} (h : Scat U V m e A) (he : e < 2 * m) (h1 : A' (slot U V m e) = (node V U e : Int)) (h2 : ∀ j, j ≠ slot U V m e → A' j = A j) : Scat U V m (e + 1) A' := by
  intro e' he'
  by_cases c : e' = e
  · subst c; exact h1
  · rw [h2 _ (fun hs => c (slot_inj' (by omega) he hs))]
    exact h e' (by omega)

/-- Every node has a neighbour. -/
theorem Ends.has (h : Ends n m L I U V) (hI : ∀ v, v < n → ∃ t, t < m ∧ (L[t]!.1 = I[v]! ∨ L[t]!.2 = I[v]!)) {v : Nat} (hv : v < n) : offs U V m v < offs U V m (v + 1) := by
  rw [offs_succ]
  obtain ⟨t, ht, e | e⟩ := hI v hv
  · rw [← h.atU t ht] at e
    have hn : node U V (2 * t) = v := by rw [node_even]; exact h.idInj (h.ltU t ht) hv e
    have := cnt_lt (node U V) (e := 2 * t) (E := 2 * m) (by omega)
    rw [hn] at this
    omega
  · rw [← h.atV t ht] at e
    have hn : node U V (2 * t + 1) = v := by rw [node_odd]; exact h.idInj (h.ltV t ht) hv e
    have := cnt_lt (node U V) (e := 2 * t + 1) (E := 2 * m) (by omega)
    rw [hn] at this
    omega

theorem ids_ends {d : Array (Int × Int)} (hJ : ∀ x, (∃ t, t < n ∧ I[t]! = x) ↔ ∃ y ∈ d, y.1 = x ∨ y.2 = x) (hm : ∀ x, x ∈ d ↔ ∃ t, t < m ∧ L[t]! = x) : ∀ v, v < n → ∃ t, t < m ∧ (L[t]!.1 = I[v]! ∨ L[t]!.2 = I[v]!) := fun v hv => by
  obtain ⟨y, hy, e⟩ := (hJ I[v]!).1 ⟨v, hv, rfl⟩
  obtain ⟨t, ht, rfl⟩ := (hm y).1 hy
  exact ⟨t, ht, e⟩

/-- The part of node v, sorted in its place. -/
def put (A : Nat → Int) (a n : Nat) (D : Array Int) (j : Nat) : Int := if a ≤ j ∧ j < a + n then D[j - a]! else A j

theorem sort_step (h : Ends n m L I U V) {A A' : Nat → Int} {v a b : Nat} {D : Array Int} (hv : v < n) (ha : a = offs U V m v) (hb : b = offs U V m (v + 1)) (hS : Scat U V m (2 * m) A)
    (hdone : ∀ i, i < v → Done (offs U V m) A A' i) (hrest : ∀ j, a ≤ j → A' j = A j)
    (hp : PermIn 0 (b - a) (Array.ofFn (n := b - a) (fun j => A' (a + j.1))) D) (hs : SortedIn ltInt 0 (b - a) D) :
    (∀ i, i < v + 1 → Done (offs U V m) A (put A' a (b - a) D) i) ∧ ∀ j, b ≤ j → put A' a (b - a) D j = A j := by
  have hab : a ≤ b := by rw [ha, hb]; exact offs_le (by omega)
  have hsz : (Array.ofFn (n := b - a) (fun j => A' (a + j.1))).size = b - a := by simp
  have key := seg_sorted (d := Array.ofFn (n := b - a) (fun j => A' (a + j.1))) (D := D) (by rw [hsz]; exact hp) (by rw [hsz]; exact hs) (fun s t hst ht => by
    rw [hsz] at ht
    rw [ofFn_at (fun j => A' (a + j)) (by omega), ofFn_at (fun j => A' (a + j)) ht]
    rw [hrest _ (by omega), hrest _ (by omega)]
    exact h.nodup hS (i := v) (by omega) (by omega) (by omega))
  rw [hsz] at key
  have hDs : D.size = b - a := by rw [hp.1, hsz]
  refine ⟨fun i hi => ?_, fun j hj => ?_⟩
  · by_cases hiv : i = v
    · subst hiv
      refine ⟨fun s t h1 h2 h3 => ?_, fun j => ?_⟩
      · rw [← ha] at h1
        rw [← hb] at h3
        unfold put
        rw [if_pos ⟨h1, by omega⟩, if_pos ⟨by omega, by omega⟩]
        exact key.1 _ _ (by omega) (by omega)
      · rw [← ha, ← hb]
        have hm := key.2 j
        rw [mem_iff, mem_iff, hDs, hsz] at hm
        constructor
        · rintro ⟨t, h1, h2, h3⟩
          unfold put at h3
          rw [if_pos ⟨h1, by omega⟩] at h3
          obtain ⟨r, hr, e⟩ := hm.1 ⟨t - a, by omega, h3⟩
          rw [ofFn_at (fun j => A' (a + j)) hr] at e
          exact ⟨a + r, by omega, by omega, by rw [← hrest _ (by omega)]; exact e⟩
        · rintro ⟨t, h1, h2, h3⟩
          obtain ⟨r, hr, e⟩ := hm.2 ⟨t - a, by omega, by
            rw [ofFn_at (fun j => A' (a + j)) (by omega)]
            show A' (a + (t - a)) = j
            rw [show a + (t - a) = t by omega, hrest _ h1]; exact h3⟩
          refine ⟨a + r, by omega, by omega, ?_⟩
          unfold put
          rw [if_pos ⟨by omega, by omega⟩, show a + r - a = r by omega]
          exact e
    · have hd := hdone i (by omega)
      have hle : offs U V m (i + 1) ≤ a := by rw [ha]; exact offs_le (by omega)
      have hsame : ∀ t, t < offs U V m (i + 1) → put A' a (b - a) D t = A' t := fun t ht => by
        unfold put
        rw [if_neg (by omega)]
      refine ⟨fun s t h1 h2 h3 => by rw [hsame s (by omega), hsame t h3]; exact hd.1 s t h1 h2 h3, fun j => ?_⟩
      rw [← hd.2 j]
      constructor
      · rintro ⟨t, h1, h2, h3⟩; exact ⟨t, h1, h2, by rw [← hsame t h2]; exact h3⟩
      · rintro ⟨t, h1, h2, h3⟩; exact ⟨t, h1, h2, by rw [hsame t h2]; exact h3⟩
  · unfold put
    rw [if_neg (by omega)]
    exact hrest j (by omega)

end Go.Proofs.Ybulkdtni.lawS6014CWhole
