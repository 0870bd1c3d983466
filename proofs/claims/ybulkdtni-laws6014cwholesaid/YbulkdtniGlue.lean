/-
  Plain laws for the walk of pdqsort: parts sorted by themselves make a whole.
-/
import Derived.Test.YbulkdtniBreak
import Derived.Sort.LotD2
import Derived.Sort.LotB
namespace Go.Proofs.Ybulkdtni.lawS6014CWhole
open Go.Sort (swp ltInt PermIn SortedIn)

theorem ltInt_false {x y : Int} : ltInt x y = false ↔ y ≤ x := by simp [ltInt]
theorem ltInt_true {x y : Int} : ltInt x y = true ↔ x < y := by simp [ltInt]

/-- What comes behind: if [a, b) of D is put in order by itself, the whole is in order. -/
def Goes (a0 b0 : Nat) (d : Array Int) (a b : Nat) (D : Array Int) : Prop :=
  ∀ d'', PermIn a b D d'' → SortedIn ltInt a b d'' → PermIn a0 b0 d d'' ∧ SortedIn ltInt a0 b0 d''

theorem Goes.start (a b : Nat) (d : Array Int) : Goes a b d a b d := fun _ h1 h2 => ⟨h1, h2⟩

theorem Goes.perm {a0 b0 : Nat} {d : Array Int} {a b : Nat} {D D1 : Array Int} (h : Goes a0 b0 d a b D) (hp : PermIn a b D D1) : Goes a0 b0 d a b D1 :=
  fun d'' h1 h2 => h d'' (Sort.permIn_trans _ _ _ _ _ hp h1) h2

theorem Goes.fine {a0 b0 : Nat} {d : Array Int} {a b : Nat} {D D1 : Array Int} (h : Goes a0 b0 d a b D) (hp : PermIn a b D D1) (hs : SortedIn ltInt a b D1) : PermIn a0 b0 d D1 ∧ SortedIn ltInt a0 b0 D1 := h D1 hp hs

theorem below_perm {a b : Nat} {D D1 : Array Int} (hb : b ≤ D.size) (h : Sort.Below ltInt a b D) (hp : PermIn a b D D1) : Sort.Below ltInt a b D1 := Sort.Below.permA Sort.permIn_all hb h hp

theorem below_less {a b b' : Nat} {D : Array Int} (h : Sort.Below ltInt a b D) (hb : b' ≤ b) : Sort.Below ltInt a b' D := by
  rcases h with h | h
  · exact Or.inl h
  · exact Or.inr (fun i h1 h2 => h i h1 (by omega))

/-- Left first, then right. -/
theorem glueR {a b m : Nat} {D D4 D5 d'' : Array Int} (hP : Parted a b D m D4) (hb : b ≤ D4.size) (h5 : PermIn a m D4 D5) (s5 : SortedIn ltInt a m D5) (h6 : PermIn (m + 1) b D5 d'') (s6 : SortedIn ltInt (m + 1) b d'') :
    PermIn a b D4 d'' ∧ SortedIn ltInt a b d'' := by
  have := hP.am
  have := hP.mb
  have z5 : D5.size = D4.size := h5.1
  refine ⟨Sort.permIn_trans _ _ _ _ _ (Sort.permIn_mono _ _ _ _ _ _ (Nat.le_refl _) (by omega) hb h5) (Sort.permIn_mono _ _ _ _ _ _ (by omega) (Nat.le_refl _) (by omega) h6), ?_⟩
  have em : d''[m]! = D4[m]! := by rw [h6.2.1 m (Or.inl (by omega)), h5.2.1 m (Or.inr (Nat.le_refl _))]
  refine Sort.sorted_glue (mid := m) Sort.swo_ltInt ?_ s6 ?_ ?_
  · intro i j h1 h2 h3
    rw [h6.2.1 i (Or.inl (by omega)), h6.2.1 j (Or.inl (by omega))]
    exact s5 i j h1 h2 h3
  · intro i h1 h2
    rw [em, h6.2.1 i (Or.inl (by omega))]
    exact Sort.permIn_all D4 D5 a m (fun x => ltInt x D4[m]! = true) (by omega) h5 (fun i h1 h2 => hP.left i h1 h2) i h1 h2
  · intro i h1 h2
    rw [em]
    exact Sort.permIn_all D5 d'' (m + 1) b (fun x => ltInt x D4[m]! = false) (by omega) h6 (fun i h1 h2 => by rw [h5.2.1 i (Or.inr (by omega))]; exact hP.right i (by omega) h2) i (by omega) h2

/-- Right first, then left. -/
theorem glueL {a b m : Nat} {D D4 D5 d'' : Array Int} (hP : Parted a b D m D4) (hb : b ≤ D4.size) (h5 : PermIn (m + 1) b D4 D5) (s5 : SortedIn ltInt (m + 1) b D5) (h6 : PermIn a m D5 d'') (s6 : SortedIn ltInt a m d'') :
    PermIn a b D4 d'' ∧ SortedIn ltInt a b d'' := by
  have := hP.am
  have := hP.mb
  have z5 : D5.size = D4.size := h5.1
  refine ⟨Sort.permIn_trans _ _ _ _ _ (Sort.permIn_mono _ _ _ _ _ _ (by omega) (Nat.le_refl _) hb h5) (Sort.permIn_mono _ _ _ _ _ _ (Nat.le_refl _) (by omega) (by omega) h6), ?_⟩
  have em : d''[m]! = D4[m]! := by rw [h6.2.1 m (Or.inr (Nat.le_refl _)), h5.2.1 m (Or.inl (by omega))]
  refine Sort.sorted_glue (mid := m) Sort.swo_ltInt s6 ?_ ?_ ?_
  · intro i j h1 h2 h3
    rw [h6.2.1 i (Or.inr (by omega)), h6.2.1 j (Or.inr (by omega))]
    exact s5 i j h1 h2 h3
  · intro i h1 h2
    rw [em]
    exact Sort.permIn_all D5 d'' a m (fun x => ltInt x D4[m]! = true) (by omega) h6 (fun i h1 h2 => by rw [h5.2.1 i (Or.inl (by omega))]; exact hP.left i h1 h2) i h1 h2
  · intro i h1 h2
    rw [em, h6.2.1 i (Or.inr (by omega))]
    exact Sort.permIn_all D4 D5 (m + 1) b (fun x => ltInt x D4[m]! = false) (by omega) h5 (fun i h1 h2 => hP.right i (by omega) h2) i (by omega) h2

/-- Behind partitionEqual. -/
theorem glueE {a b m : Nat} {D D4 d'' : Array Int} {p : Int} (hP : PartedEq a b D p m D4) (hb : b ≤ D4.size) (hD : D4.size = D.size) (hno : ∀ i, a ≤ i → i < b → ltInt D[i]! p = false) (h6 : PermIn m b D4 d'') (s6 : SortedIn ltInt m b d'') :
    PermIn a b D4 d'' ∧ SortedIn ltInt a b d'' := by
  have := hP.am
  have := hP.mb
  refine ⟨Sort.permIn_mono _ _ _ _ _ _ (by omega) (Nat.le_refl _) hb h6, ?_⟩
  refine Sort.sorted_glue_eq (mid := m) Sort.swo_ltInt p s6 ?_ ?_ ?_
  · intro i h1 h2
    rw [h6.2.1 i (Or.inl h2)]
    exact hP.left i h1 h2
  · intro i h1 h2
    rw [h6.2.1 i (Or.inl h2)]
    exact Sort.permIn_all D D4 a b (fun x => ltInt x p = false) (by omega) hP.perm hno i h1 (by omega)
  · intro i h1 h2
    exact Sort.permIn_all D4 d'' m b (fun x => ltInt p x = true) hb h6 (fun i h1 h2 => hP.right i h1 h2) i h1 h2

theorem below_eq {a b m : Nat} {D D4 : Array Int} {p : Int} (hP : PartedEq a b D p m D4) : Sort.Below ltInt m b D4 := by
  have := hP.am
  refine Or.inr (fun i h1 h2 => ?_)
  have x1 := ltInt_true.1 (hP.right i h1 h2)
  have x2 := ltInt_false.1 (hP.left (m - 1) (by omega) (by omega))
  exact ltInt_false.2 (by omega)

theorem below_right {a b m : Nat} {D D4 D5 : Array Int} (hP : Parted a b D m D4) (h5 : PermIn a m D4 D5) : Sort.Below ltInt (m + 1) b D5 := by
  refine Or.inr (fun i h1 h2 => ?_)
  rw [Nat.add_sub_cancel, h5.2.1 i (Or.inr (by omega)), h5.2.1 m (Or.inr (Nat.le_refl _))]
  exact hP.right i (by omega) h2

theorem below_right0 {a b m : Nat} {D D4 : Array Int} (hP : Parted a b D m D4) : Sort.Below ltInt (m + 1) b D4 := below_right hP (Sort.permIn_refl _ _ _)

theorem below_left {a b m : Nat} {D D4 D5 : Array Int} (hb : b ≤ D.size) (h : Sort.Below ltInt a b D) (hP : Parted a b D m D4) (h5 : PermIn (m + 1) b D4 D5) : Sort.Below ltInt a m D5 := by
  have h4 := below_less (below_perm hb h hP.perm) (Nat.le_of_lt hP.mb)
  have := hP.am
  rcases h4 with h | h
  · exact Or.inl h
  · refine Or.inr (fun i h1 h2 => ?_)
    rw [h5.2.1 i (Or.inl (by omega)), h5.2.1 (a - 1) (Or.inl (by omega))]
    exact h i h1 h2

/-- None of [a, b) is less than the pivot, when the one ahead is not. -/
theorem none_less {a b : Nat} {D : Array Int} {p : Int} (h : Sort.Below ltInt a b D) (ha : 0 < a) (hp : ltInt D[a - 1]! p = false) : ∀ i, a ≤ i → i < b → ltInt D[i]! p = false := by
  intro i h1 h2
  rcases h with h | h
  · omega
  · have x1 := ltInt_false.1 (h i h1 h2)
    have x2 := ltInt_false.1 hp
    exact ltInt_false.2 (by omega)

end Go.Proofs.Ybulkdtni.lawS6014CWhole
