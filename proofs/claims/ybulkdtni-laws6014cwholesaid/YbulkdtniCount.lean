/-
  Plain: counting and scattering by nodes.
-/
import Derived.Test.YbulkdtniSt
namespace Go.Proofs.Ybulkdtni.lawS6014CWhole

/-- How many of the first e steps are at node i. -/
def cnt (node : Nat → Nat) (i : Nat) : Nat → Nat
  | 0 => 0
  | e + 1 => cnt node i e + (if node e = i then 1 else 0)

/-- The sum of k below i. -/
def pre (k : Nat → Nat) : Nat → Nat
  | 0 => 0
  | i + 1 => pre k i + k i

theorem pre_congr {k k' : Nat → Nat} : ∀ n, (∀ i, i < n → k i = k' i) → pre k n = pre k' n
  | 0, _ => rfl
  | n + 1, h => by rw [pre, pre, pre_congr n (fun i hi => h i (by omega)), h n (by omega)]

theorem pre_bump (k : Nat → Nat) (j : Nat) : ∀ n, pre (fun i => k i + (if j = i then 1 else 0)) n = pre k n + (if j < n then 1 else 0)
  | 0 => by simp [pre]
  | n + 1 => by
    rw [pre, pre, pre_bump k j n]
    by_cases h : j = n
    · subst h; simp; omega
    · rw [if_neg h]
      by_cases h2 : j < n
      · rw [if_pos h2, if_pos (by omega)]; omega
      · rw [if_neg h2, if_neg (by omega)]; omega

theorem pre_zero : ∀ n, pre (fun _ => 0) n = 0
  | 0 => rfl
  | n + 1 => by rw [pre, pre_zero n]

/-- Each step is at one node. -/
theorem pre_total (node : Nat → Nat) (n : Nat) : ∀ E, (∀ e, e < E → node e < n) → pre (fun i => cnt node i E) n = E
  | 0, _ => pre_zero n
  | E + 1, h => by
    have ih := pre_total node n E (fun e he => h e (by omega))
    show pre (fun i => cnt node i E + (if node E = i then 1 else 0)) n = E + 1
    rw [pre_bump (fun i => cnt node i E) (node E) n, ih, if_pos (h E (by omega))]

theorem cnt_mono (node : Nat → Nat) (i : Nat) {e E : Nat} (h : e ≤ E) : cnt node i e ≤ cnt node i E := by
  induction E with
  | zero => have : e = 0 := by omega
            subst this; exact Nat.le_refl _
  | succ E ih =>
    by_cases h2 : e = E + 1
    · subst h2; exact Nat.le_refl _
    · have := ih (by omega)
      rw [cnt]; omega

theorem cnt_lt (node : Nat → Nat) {e E : Nat} (h : e < E) : cnt node (node e) e < cnt node (node e) E := by
  have h1 : cnt node (node e) (e + 1) = cnt node (node e) e + 1 := by rw [cnt, if_pos rfl]
  have h2 := cnt_mono node (node e) (e := e + 1) (E := E) h
  omega

theorem pre_mono (k : Nat → Nat) {i j : Nat} (h : i < j) : pre k i + k i ≤ pre k j := by
  induction j with
  | zero => omega
  | succ j ih =>
    rw [pre]
    by_cases e : i = j
    · subst e; exact Nat.le_refl _
    · have := ih (by omega); omega

/-- Two steps never write one place. -/
theorem slot_inj (node : Nat → Nat) {E e e' : Nat} (he : e < E) (he' : e' < E) (h : pre (fun i => cnt node i E) (node e) + cnt node (node e) e = pre (fun i => cnt node i E) (node e') + cnt node (node e') e') : e = e' := by
  have a := cnt_lt node he
  have b := cnt_lt node he'
  rcases Nat.lt_trichotomy (node e) (node e') with c | c | c
  · have := pre_mono (fun i => cnt node i E) c; omega
  · rw [c] at h a
    rcases Nat.lt_trichotomy e e' with x | x | x
    · have := cnt_lt node x; rw [c] at this; omega
    · exact x
    · have := cnt_lt node x; omega
  · have := pre_mono (fun i => cnt node i E) c; omega

/-- Every place of node i's part is written. -/
theorem slot_surj (node : Nat → Nat) (i : Nat) : ∀ E r, r < cnt node i E → ∃ e, e < E ∧ node e = i ∧ cnt node i e = r
  | 0, r, h => by simp [cnt] at h
  | E + 1, r, h => by
    rcases Nat.lt_or_ge r (cnt node i E) with c | c
    · obtain ⟨e, h1, h2, h3⟩ := slot_surj node i E r c
      exact ⟨e, by omega, h2, h3⟩
    · rw [cnt] at h
      by_cases hn : node E = i
      · rw [if_pos hn] at h
        exact ⟨E, by omega, hn, by omega⟩
      · rw [if_neg hn] at h; omega

end Go.Proofs.Ybulkdtni.lawS6014CWhole
