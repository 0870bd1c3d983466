/-
  Plain: the graph in compressed rows; it is determined by its nodes and its relation; counting, scattering and sorting builds it.
-/
import Derived.Test.YbulkdtniBut
import Derived.Test.YbulkdtniCount
namespace Go.Proofs.Ybulkdtni.lawS6014CWhole
open Go.Sort (ltInt PermIn SortedIn)

/-- Rows O, A: node i's part of A, from O i to O (i + 1), holds what R relates to i, ascending. -/
structure Csr (n : Nat) (R : Nat → Int → Prop) (O : Nat → Nat) (A : Nat → Int) : Prop where
  zero : O 0 = 0
  mono : ∀ i, i < n → O i ≤ O (i + 1)
  strict : ∀ i, i < n → ∀ s t, O i ≤ s → s < t → t < O (i + 1) → A s < A t
  mem : ∀ i, i < n → ∀ j, (∃ t, O i ≤ t ∧ t < O (i + 1) ∧ A t = j) ↔ R i j

theorem ofFn_at {m : Nat} (F : Nat → Int) {t : Nat} (ht : t < m) : (Array.ofFn (n := m) (fun t => F t.1))[t]! = F t := by
  rw [getElem!_pos _ t (by simpa using ht)]; simp

theorem strict_uniqueF {F F' : Nat → Int} {m m' : Nat} (h1 : ∀ s t, s < t → t < m → F s < F t) (h2 : ∀ s t, s < t → t < m' → F' s < F' t)
    (hm : ∀ v, (∃ t, t < m ∧ F t = v) ↔ (∃ t, t < m' ∧ F' t = v)) : m = m' ∧ ∀ t, t < m → F t = F' t := by
  have h := strict_unique (D := Array.ofFn (n := m) (fun t => F t.1)) (D' := Array.ofFn (n := m') (fun t => F' t.1)) (m := m) (m' := m') total_int
    (fun s t hs ht => by rw [ofFn_at F (by omega), ofFn_at F ht]; exact ltInt_true.2 (h1 s t hs ht))
    (fun s t hs ht => by rw [ofFn_at F' (by omega), ofFn_at F' ht]; exact ltInt_true.2 (h2 s t hs ht))
    (fun v => by
      constructor
      · rintro ⟨t, ht, hv⟩
        rw [ofFn_at F ht] at hv
        obtain ⟨t', ht', hv'⟩ := (hm v).1 ⟨t, ht, hv⟩
        exact ⟨t', ht', by rw [ofFn_at F' ht']; exact hv'⟩
      · rintro ⟨t, ht, hv⟩
        rw [ofFn_at F' ht] at hv
        obtain ⟨t', ht', hv'⟩ := (hm v).2 ⟨t, ht, hv⟩
        exact ⟨t', ht', by rw [ofFn_at F ht']; exact hv'⟩)
  obtain ⟨e, h⟩ := h
  refine ⟨e, fun t ht => ?_⟩
  have := h t ht
  rw [ofFn_at F ht, ofFn_at F' (by omega)] at this
  exact this

theorem csr_unique {n : Nat} {R : Nat → Int → Prop} {O O' : Nat → Nat} {A A' : Nat → Int} (h : Csr n R O A) (h' : Csr n R O' A') :
    ∀ i, i ≤ n → O i = O' i ∧ ∀ t, t < O i → A t = A' t
  | 0, _ => ⟨by rw [h.zero, h'.zero], fun t ht => by rw [h.zero] at ht; omega⟩
  | i + 1, hi => by
    obtain ⟨e, ih⟩ := csr_unique h h' i (by omega)
    have hs := strict_uniqueF (F := fun t => A (O i + t)) (F' := fun t => A' (O' i + t)) (m := O (i + 1) - O i) (m' := O' (i + 1) - O' i)
      (fun s t h1 h2 => h.strict i (by omega) _ _ (by omega) (by omega) (by omega)) (fun s t h1 h2 => h'.strict i (by omega) _ _ (by omega) (by omega) (by omega))
      (fun v => by
        have a := h.mem i (by omega) v
        have b := h'.mem i (by omega) v
        constructor
        · rintro ⟨t, ht, hv⟩
          obtain ⟨t', h1, h2, h3⟩ := b.2 (a.1 ⟨O i + t, by omega, by omega, hv⟩)
          exact ⟨t' - O' i, by omega, by show A' (O' i + (t' - O' i)) = v; rw [show O' i + (t' - O' i) = t' by omega]; exact h3⟩
        · rintro ⟨t, ht, hv⟩
          obtain ⟨t', h1, h2, h3⟩ := a.2 (b.1 ⟨O' i + t, by omega, by omega, hv⟩)
          exact ⟨t' - O i, by omega, by show A (O i + (t' - O i)) = v; rw [show O i + (t' - O i) = t' by omega]; exact h3⟩)
    obtain ⟨e2, hs⟩ := hs
    have m1 := h.mono i (by omega)
    have m2 := h'.mono i (by omega)
    refine ⟨by omega, fun t ht => ?_⟩
    rcases Nat.lt_or_ge t (O i) with c | c
    · exact ih t c
    · have := hs (t - O i) (by omega)
      rw [show O i + (t - O i) = t by omega, show O' i + (t - O i) = t by omega] at this
      exact this

/-- Sorting a row without repeats. -/
theorem seg_sorted {d D : Array Int} (hp : PermIn 0 d.size d D) (hs : SortedIn ltInt 0 d.size D) (hd : ∀ s t, s < t → t < d.size → d[s]! ≠ d[t]!) :
    (∀ s t, s < t → t < d.size → D[s]! < D[t]!) ∧ ∀ x, x ∈ D ↔ x ∈ d := by
  have hsz : D.size = d.size := hp.1
  have h2 := hp.2.2
  have e1 : D.extract 0 d.size = D := by rw [← hsz]; simp
  have e2 : d.extract 0 d.size = d := by simp
  rw [e1, e2] at h2
  have nd : d.toList.Nodup := by
    unfold List.Nodup
    rw [List.pairwise_iff_getElem]
    intro i j hi hj hij
    have := hd i j hij (by simpa using hj)
    rw [getElem!_pos d i (by simp at hi; omega), getElem!_pos d j (by simpa using hj)] at this
    simpa using this
  have nD : D.toList.Nodup := h2.nodup_iff.2 nd
  refine ⟨fun s t hst ht => ?_, fun x => perm_mem rfl hp x⟩
  have h3 := ltInt_false.1 (hs s t (Nat.zero_le _) hst ht)
  unfold List.Nodup at nD
  rw [List.pairwise_iff_getElem] at nD
  have h4 := nD s t (by simp; omega) (by simp; omega) hst
  rw [getElem!_pos D s (by omega), getElem!_pos D t (by omega)] at h3 ⊢
  simp at h4
  omega

/-- Node i's part is sorted: the same values, ascending. -/
def Done (O : Nat → Nat) (A A' : Nat → Int) (i : Nat) : Prop :=
  (∀ s t, O i ≤ s → s < t → t < O (i + 1) → A' s < A' t) ∧ ∀ j, (∃ t, O i ≤ t ∧ t < O (i + 1) ∧ A' t = j) ↔ (∃ t, O i ≤ t ∧ t < O (i + 1) ∧ A t = j)

/-- Of the links and their ends' nodes. -/
structure Ends (n m : Nat) (L : Array (Int × Int)) (I : Array Int) (U V : Nat → Nat) : Prop where
  ltU : ∀ t, t < m → U t < n
  ltV : ∀ t, t < m → V t < n
  atU : ∀ t, t < m → I[U t]! = L[t]!.1
  atV : ∀ t, t < m → I[V t]! = L[t]!.2
  uv : ∀ t, t < m → L[t]!.1 < L[t]!.2
  inj : ∀ s t, s < m → t < m → L[s]! = L[t]! → s = t
  sI : ∀ s t, s < t → t < n → I[s]! < I[t]!

def node (U V : Nat → Nat) (e : Nat) : Nat := if e % 2 = 0 then U (e / 2) else V (e / 2)

theorem node_even (U V : Nat → Nat) (t : Nat) : node U V (2 * t) = U t := by
  unfold node; rw [if_pos (by omega), show 2 * t / 2 = t by omega]
theorem node_odd (U V : Nat → Nat) (t : Nat) : node U V (2 * t + 1) = V t := by
  unfold node; rw [if_neg (by omega), show (2 * t + 1) / 2 = t by omega]

variable {n m : Nat} {L : Array (Int × Int)} {I : Array Int} {U V : Nat → Nat}

theorem Ends.node_lt (h : Ends n m L I U V) {e : Nat} (he : e < 2 * m) : node U V e < n := by
  unfold node
  split
  · exact h.ltU _ (by omega)
  · exact h.ltV _ (by omega)

theorem half (e : Nat) : e = 2 * (e / 2) ∨ e = 2 * (e / 2) + 1 := by omega

theorem Ends.distinct (h : Ends n m L I U V) {e e' : Nat} (he : e < 2 * m) (he' : e' < 2 * m) (hn : node U V e = node U V e') (hv : node V U e = node V U e') : e = e' := by
  obtain ⟨t, ht⟩ : ∃ t, t = e / 2 := ⟨_, rfl⟩
  obtain ⟨t', ht'⟩ : ∃ t, t = e' / 2 := ⟨_, rfl⟩
  have b1 : t < m := by omega
  have b2 : t' < m := by omega
  have key : ∀ a b : Nat, a < m → b < m → U a = U b → V a = V b → a = b := fun a b ha hb hu hv => h.inj a b ha hb (Prod.ext (by rw [← h.atU a ha, ← h.atU b hb, hu]) (by rw [← h.atV a ha, ← h.atV b hb, hv]))
  have bad : ∀ a b : Nat, a < m → b < m → U a = V b → V a = U b → False := fun a b ha hb hu hv => by
    have x1 := h.uv a ha
    have x2 := h.uv b hb
    rw [← h.atU a ha, ← h.atV a ha, hu, hv, h.atU b hb, h.atV b hb] at x1
    omega
  rcases half e with c | c <;> rcases half e' with c' | c' <;> rw [← ht] at c <;> rw [← ht'] at c' <;> subst c <;> subst c' <;> simp only [node_even, node_odd] at hn hv
  · rw [key t t' b1 b2 hn hv]
  · exact (bad t t' b1 b2 hn hv).elim
  · exact (bad t t' b1 b2 hv hn).elim
  · rw [key t t' b1 b2 hv hn]

theorem Ends.idInj (h : Ends n m L I U V) {i j : Nat} (hi : i < n) (hj : j < n) (e : I[i]! = I[j]!) : i = j := by
  rcases Nat.lt_trichotomy i j with c | c | c
  · have := h.sI i j c hj; omega
  · exact c
  · have := h.sI j i c hi; omega

/-- Who is whose neighbour: by the links of d. -/
def Rel (d : Array (Int × Int)) (I : Array Int) (n i : Nat) (j : Int) : Prop := ∃ q : Nat, q < n ∧ j = q ∧ ((I[i]!, I[q]!) ∈ d ∨ (I[q]!, I[i]!) ∈ d)

theorem Ends.rel (h : Ends n m L I U V) {d : Array (Int × Int)} (hd : ∀ x, x ∈ d ↔ ∃ t, t < m ∧ L[t]! = x) {i : Nat} (hi : i < n) (j : Int) :
    (∃ e, e < 2 * m ∧ node U V e = i ∧ (node V U e : Int) = j) ↔ Rel d I n i j := by
  constructor
  · rintro ⟨e, he, rfl, rfl⟩
    have b1 : e / 2 < m := by omega
    rcases half e with c | c
    · rw [c, node_even, node_even]
      exact ⟨_, h.ltV _ b1, rfl, Or.inl ((hd _).2 ⟨_, b1, Prod.ext (h.atU _ b1).symm (h.atV _ b1).symm⟩)⟩
    · rw [c, node_odd, node_odd]
      exact ⟨_, h.ltU _ b1, rfl, Or.inr ((hd _).2 ⟨_, b1, Prod.ext (h.atU _ b1).symm (h.atV _ b1).symm⟩)⟩
  · rintro ⟨q, hq, rfl, hr | hr⟩
    · obtain ⟨t, ht, e⟩ := (hd _).1 hr
      have e1 : L[t]!.1 = I[i]! := by rw [e]
      have e2 : L[t]!.2 = I[q]! := by rw [e]
      rw [← h.atU t ht] at e1
      rw [← h.atV t ht] at e2
      exact ⟨2 * t, by omega, by rw [node_even]; exact h.idInj (h.ltU t ht) hi e1, by rw [node_even, h.idInj (h.ltV t ht) hq e2]⟩
    · obtain ⟨t, ht, e⟩ := (hd _).1 hr
      have e1 : L[t]!.1 = I[q]! := by rw [e]
      have e2 : L[t]!.2 = I[i]! := by rw [e]
      rw [← h.atU t ht] at e1
      rw [← h.atV t ht] at e2
      exact ⟨2 * t + 1, by omega, by rw [node_odd]; exact h.idInj (h.ltV t ht) hi e2, by rw [node_odd, h.idInj (h.ltU t ht) hq e1]⟩

/-- Where node i's part begins. -/
def offs (U V : Nat → Nat) (m : Nat) (i : Nat) : Nat := pre (fun i => cnt (node U V) i (2 * m)) i

/-- Where step e writes. -/
def slot (U V : Nat → Nat) (m e : Nat) : Nat := offs U V m (node U V e) + cnt (node U V) (node U V e) e

theorem offs_succ (U V : Nat → Nat) (m i : Nat) : offs U V m (i + 1) = offs U V m i + cnt (node U V) i (2 * m) := rfl

theorem slot_inj' {e e' : Nat} (he : e < 2 * m) (he' : e' < 2 * m) (h : slot U V m e = slot U V m e') : e = e' := slot_inj (node U V) he he' h

theorem slot_lt {e : Nat} (he : e < 2 * m) : slot U V m e < offs U V m (node U V e + 1) := by
  rw [offs_succ]
  have := cnt_lt (node U V) he
  unfold slot
  omega

theorem Ends.total (h : Ends n m L I U V) : offs U V m n = 2 * m := pre_total (node U V) n (2 * m) (fun _ he => h.node_lt he)

theorem offs_le {i j : Nat} (h : i ≤ j) : offs U V m i ≤ offs U V m j := by
  rcases Nat.lt_or_ge i j with c | c
  · have := pre_mono (fun i => cnt (node U V) i (2 * m)) c
    unfold offs
    omega
  · have : i = j := by omega
    rw [this]; exact Nat.le_refl _

theorem Ends.slot_bound (h : Ends n m L I U V) {e : Nat} (he : e < 2 * m) : slot U V m e < 2 * m := by
  have h1 := slot_lt (U := U) (V := V) he
  have h2 := offs_le (U := U) (V := V) (m := m) (i := node U V e + 1) (j := n) (h.node_lt he)
  rw [h.total] at h2
  omega

/-- What lies in node i's part, all scattered. -/
theorem seg_mem {A : Nat → Int} (hA : ∀ e, e < 2 * m → A (slot U V m e) = (node V U e : Int)) {i s : Nat} (h1 : offs U V m i ≤ s) (h2 : s < offs U V m (i + 1)) :
    ∃ e, e < 2 * m ∧ node U V e = i ∧ slot U V m e = s ∧ A s = (node V U e : Int) := by
  rw [offs_succ] at h2
  obtain ⟨e, he, hn, hc⟩ := slot_surj (node U V) i (2 * m) (s - offs U V m i) (by omega)
  have hs : slot U V m e = s := by
    unfold slot
    rw [hn, hc]; omega
  exact ⟨e, he, hn, hs, by rw [← hs]; exact hA e he⟩

theorem Ends.nodup (h : Ends n m L I U V) {A : Nat → Int} (hA : ∀ e, e < 2 * m → A (slot U V m e) = (node V U e : Int)) {i s t : Nat} (h1 : offs U V m i ≤ s) (h2 : s < t) (h3 : t < offs U V m (i + 1)) : A s ≠ A t := by
  obtain ⟨e, he, hn, hs, hv⟩ := seg_mem hA h1 (by omega)
  obtain ⟨e', he', hn', hs', hv'⟩ := seg_mem hA (s := t) (by omega) h3
  intro heq
  have := h.distinct he he' (by rw [hn, hn']) (by rw [hv, hv'] at heq; omega)
  subst this
  omega

theorem Ends.csr (h : Ends n m L I U V) {d : Array (Int × Int)} (hd : ∀ x, x ∈ d ↔ ∃ t, t < m ∧ L[t]! = x) {A A' : Nat → Int} (hA : ∀ e, e < 2 * m → A (slot U V m e) = (node V U e : Int)) (hD : ∀ i, i < n → Done (offs U V m) A A' i) :
    Csr n (Rel d I n) (offs U V m) A' := by
  refine ⟨rfl, fun i _ => offs_le (by omega), fun i hi => (hD i hi).1, fun i hi j => ?_⟩
  rw [(hD i hi).2 j, ← h.rel hd hi j]
  constructor
  · rintro ⟨t, h1, h2, h3⟩
    obtain ⟨e, he, hn, _, hv⟩ := seg_mem hA h1 h2
    exact ⟨e, he, hn, by rw [← hv]; exact h3⟩
  · rintro ⟨e, he, hn, hv⟩
    refine ⟨slot U V m e, ?_, ?_, by rw [hA e he]; exact hv⟩
    · rw [← hn]; unfold slot; omega
    · rw [← hn]; exact slot_lt he

end Go.Proofs.Ybulkdtni.lawS6014CWhole
