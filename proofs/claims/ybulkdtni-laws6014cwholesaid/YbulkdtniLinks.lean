/-
  sort.Slice over the links, as fromLinks calls it.
-/
import Derived.Test.YbulkdtniSlice
namespace Go.Proofs.Ybulkdtni.lawS6014CWhole
open Go.Shelf Go.RowKit Go.Proofs.Ybulkdtni.Own Go.Lib
open Go.Sort (swp ltInt PermIn SortedIn SWO putRow putCells Holds grow flatK get_flatK putRowK HoldsK putRowK_grow holdsK_grow holdsK_ahead cell?_putRowK_other holdsK_putRowK)

/-- The links' order: by u, then by v. -/
def ltL (x y : Int × Int) : Bool := if x.1 = y.1 then decide (x.2 < y.2) else decide (x.1 < y.1)

theorem ltL_true {x y : Int × Int} : ltL x y = true ↔ x.1 < y.1 ∨ (x.1 = y.1 ∧ x.2 < y.2) := by
  unfold ltL
  split
  · simp; omega
  · simp; omega

theorem swo_ltL : SWO ltL where
  irrefl x := by
    have := ltL_true (x := x) (y := x)
    cases h : ltL x x
    · rfl
    · have := this.1 h; omega
  trans x y z h1 h2 := by
    have a := ltL_true.1 h1
    have b := ltL_true.1 h2
    exact ltL_true.2 (by omega)
  ntrans x y z h1 h2 := by
    have a : ¬ (x.1 < y.1 ∨ (x.1 = y.1 ∧ x.2 < y.2)) := fun h => by rw [ltL_true.2 h] at h1; cases h1
    have b : ¬ (y.1 < z.1 ∨ (y.1 = z.1 ∧ y.2 < z.2)) := fun h => by rw [ltL_true.2 h] at h2; cases h2
    cases h : ltL x z
    · rfl
    · have := ltL_true.1 h; omega

def encL (p : Int × Int) : List Value := [.int .u64 p.1, .int .u64 p.2]

/-- Cell k of a row of links. -/
def linkCell (d : Array (Int × Int)) (k : Nat) : Value := if k % 2 = 0 then .int .u64 d[k / 2]!.1 else .int .u64 d[k / 2]!.2

theorem flat_link (d : Array (Int × Int)) (k : Nat) (hk : k < d.size * 2) : (flatK encL 2 d)[k]! = linkCell d k := by
  rw [get_flatK _ _ _ k hk]
  unfold linkCell encL
  rcases (by omega : k % 2 = 0 ∨ k % 2 = 1) with h | h <;> simp [h]

theorem less14 (g c Bs size : Nat) (W : World) (G : Nat → Int × Int) (hs : W.cell? ⟨Bs, 0, none⟩ = some (.slice (some ⟨g, 0, none⟩) size c))
    (hc : ∀ t, t < size → W.cell? ⟨g, t * 2, none⟩ = some (.int .u64 (G t).1) ∧ W.cell? ⟨g, t * 2 + 1, none⟩ = some (.int .u64 (G t).2)) (i j : Nat) (hi : i < size) (hj : j < size) :
    Calls Yba.prog 14 #[.int .i64 i, .int .i64 j, .pointer (some ⟨Bs, 0, none⟩)] W fun e w' => e = .returned (.bool (ltL (G i) (G j))) ∧ ∃ q, w' = W.drewN q := by
  obtain ⟨ci, ci'⟩ := hc i hi
  obtain ⟨cj, cj'⟩ := hc j hj
  have hlt : ltL (G i) (G j) = if (G i).1 = (G j).1 then decide ((G i).2 < (G j).2) else decide ((G i).1 < (G j).1) := rfl
  generalize G i = p at ci ci' hlt ⊢
  generalize G j = q at cj cj' hlt ⊢
  obtain ⟨a, b⟩ := p
  obtain ⟨a', b'⟩ := q
  simp only at ci ci' cj cj' hlt
  have HL := hide hlt
  clear hc hlt
  by_cases he : a = a'
  · subst he
    go_enter Yba.func14, Yba.ntmps14
    go_wp2_with fail
    go_quiet (fail)
    go_wp2_with fail
    go_quiet (fail)
    go_wp2
    go_ret
    exact ⟨by rw [HL.out]; simp, _, World.drewN_drewN _ _ _⟩
  · have hb : (a != a') = true := by simpa using he
    go_enter Yba.func14, Yba.ntmps14
    go_wp2_with fail
    go_quiet (fail)
    go_wp2_with fail
    go_quiet (fail)
    go_wp2
    go_ret
    exact ⟨by rw [HL.out, if_neg he]; rfl, _, World.drewN_drewN _ _ _⟩

theorem info65E : ∃ ie, Yba.prog.info? 65 = some ie ∧ ie.size = 2 ∧ ie.hasPointers = false ∧ ie.bytes = 16 := by
  have h : (Yba.prog.info? 65).map (fun i => (i.size, i.hasPointers, i.bytes)) = some (2, false, 16) := by kernel_rfl
  cases hh : Yba.prog.info? 65 with
  | none => rw [hh] at h; cases h
  | some ie => rw [hh] at h; simp at h; exact ⟨ie, rfl, h.1, h.2.1, h.2.2⟩
theorem info61T : ∃ i, Yba.prog.info? 61 = some i ∧ i.desc = .slice 65 := by
  have h : (Yba.prog.info? 61).map (fun i => i.desc) = some (.slice 65) := by kernel_rfl
  cases hh : Yba.prog.info? 61 with
  | none => rw [hh] at h; cases h
  | some ie => rw [hh] at h; simp at h; exact ⟨ie, rfl, h⟩

/-- sort.Slice over the links, two or more. -/
theorem slice14 (w : World) (g cap c Bs : Nat) (f : Nat → Value) (d : Array (Int × Int)) (h2 : 2 ≤ d.size) (hsz : d.size ≤ 1048576) (hR : RowF w g 65 cap f) (hcap : d.size * 2 ≤ cap) (hf : ∀ j, j < d.size * 2 → f j = linkCell d j)
    (hBs : w.cell? ⟨Bs, 0, none⟩ = some (.slice (some ⟨g, 0, none⟩) d.size c)) (hB1 : Bs < w.heap.size) (hB2 : Bs ≠ g) :
    Calls Yba.prog 13 #[.iface 61 (.slice (some ⟨g, 0, none⟩) d.size c), .func (.func 14) #[] #[.pointer (some ⟨Bs, 0, none⟩)]] w fun e w' =>
      e = .returned (.tuple #[]) ∧ ∃ d' : Array (Int × Int), PermIn 0 d.size d d' ∧ SortedIn ltL 0 d.size d' ∧ Only g w w' ∧ RowF w' g 65 cap (fun k => if k < d.size * 2 then linkCell d' k else f k) := by
  have hflat : (flatK encL 2 d).size = d.size * 2 := by simp
  have hH : HoldsK encL 2 w g 0 d := holds_row id 0 (flatK encL 2 d) hR (by rw [hflat]; omega) (fun j hj => by
    rw [hflat] at hj
    rw [Nat.zero_add, hf j hj, flat_link d j hj]; rfl)
  have hg := hR.lt
  have hless : LessReadsK Yba.prog 14 #[.pointer (some ⟨Bs, 0, none⟩)] encL 2 ltL g 0 d.size w := by
    intro m os dk hs i j hi hj
    have e : sortWorldK encL 2 w g 0 m dk os = putRowK encL 2 (grow (Sort.ahead w m) os) g 0 dk := by
      unfold sortWorldK; rw [putRowK_grow _ _ (Sort.ahead w m) _ g 0 _ hg]
    have hHg : HoldsK encL 2 (grow (Sort.ahead w m) os) g 0 d := holdsK_grow _ _ _ _ g 0 d hg (holdsK_ahead _ _ _ _ _ _ _ hH)
    refine less14 g c Bs d.size _ (fun t => dk[t]!) ?_ (fun t ht => ?_) i j hi hj
    · rw [e, cell?_putRowK_other _ _ _ g 0 dk _ (by exact hB2), Sort.cell?_grow _ _ _ (by exact hB1)]; exact hBs
    · have h0 := ((holdsK_putRowK _ _ _ g 0 d dk hHg hs).cell (i := t) (c := 0) (by omega) (by omega)).1
      have h1 := ((holdsK_putRowK _ _ _ g 0 d dk hHg hs).cell (i := t) (c := 1) (by omega) (by omega)).1
      rw [e]
      refine ⟨?_, ?_⟩
      · simpa [encL] using h0
      · simpa [encL] using h1
  obtain ⟨ie, hie, e1, e2, e3⟩ := info65E
  obtain ⟨i, hi, hid⟩ := info61T
  have hK : swapperK d.size ie 25 = 9 := by
    have z0 : (d.size == 0) = false := by simpa using (by omega : ¬ d.size = 0)
    have z1 : (d.size == 1) = false := by simpa using (by omega : ¬ d.size = 1)
    simp [swapperK, e2, e3, z0, z1]
  have hS := Any.sort_Slice_cells_sorted Yba.sl6 61 65 i ie hi hid (by kernel_rfl) hie 25 (fun _ => by kernel_rfl) encL 2 (fun _ => rfl) e1 (fun _ => by kernel_rfl)
    (fun x v hv => by simp [encL] at hv; rcases hv with rfl | rfl <;> rfl) ltL swo_ltL 14 #[.pointer (some ⟨Bs, 0, none⟩)]
    (enters_of Yba.func14 (by kernel_rfl) rfl) g 0 c d h2 (by omega) 49 (by rw [hK]; kernel_rfl) false
    (fun args W => run_callFunc_extern Yba.func49 (by kernel_rfl) (by kernel_rfl) (by kernel_rfl) (e := Extern.ReflectliteSwapper.swap false) (by kernel_rfl) args W) w hless hH hg
  change Calls Yba.prog 13 _ _ _ at hS
  refine hS.mono ?_
  rintro e w' ⟨rfl, d', n, os, hp, hs, rfl⟩
  refine ⟨rfl, d', hp, hs, only_sorted id w g 0 (flatK encL 2 d') n os hg, ?_⟩
  have h1 := row_sorted id 0 (flatK encL 2 d') n os hR
  have hs' : (flatK encL 2 d').size = d.size * 2 := by simp [hp.1]
  refine h1.congr (fun k hk => ?_)
  rw [hs']
  by_cases hk2 : k < d.size * 2
  · rw [if_pos hk2, if_pos (by omega), Nat.sub_zero, flat_link d' k (by rw [hp.1]; exact hk2)]; rfl
  · rw [if_neg hk2, if_neg (by omega)]

theorem tiny14 (w : World) (p : Option Addr) (n c Bs : Nat) (h1 : n ≤ 1) :
    Calls Yba.prog 13 #[.iface 61 (.slice p n c), .func (.func 14) #[] #[.pointer (some ⟨Bs, 0, none⟩)]] w fun e w' => e = .returned (.tuple #[]) ∧ ∃ os, w' = grow w os := by
  obtain ⟨ie, hie, e1, e2, e3⟩ := info65E
  obtain ⟨i, hi, hid⟩ := info61T
  have hK : swapperK n ie 25 = n + 1 := by
    rcases Nat.eq_zero_or_pos n with h | h
    · subst h; simp [swapperK]
    · obtain rfl : n = 1 := by omega
      simp [swapperK]
  have hS := Any.sort_Slice_tiny Yba.sl6 61 65 i ie hi hid (by kernel_rfl) hie 25 (fun _ => by kernel_rfl) p n c h1 (41 + n) (by
    rw [hK]
    rcases Nat.eq_zero_or_pos n with h | h
    · subst h; kernel_rfl
    · obtain rfl : n = 1 := by omega
      kernel_rfl) (.func 14) #[] #[.pointer (some ⟨Bs, 0, none⟩)] w
  change Calls Yba.prog 13 _ _ _ at hS
  exact hS

theorem grow_only (g : Nat) (w : World) (os : Array Obj) (hg : g ≤ w.heap.size) : Only g w (grow w os) := by
  have hb : ∀ b, b < w.heap.size → (grow w os).heap[b]? = w.heap[b]? := fun b h1 => by
    show (w.heap ++ os)[b]? = _
    rw [Array.getElem?_append_left h1]
  refine ⟨⟨rfl, rfl, rfl, ?_, fun k hk => hb k (by omega)⟩, fun b h1 _ => hb b h1⟩
  show w.heap.size ≤ (w.heap ++ os).size
  rw [Array.size_append]; omega

end Go.Proofs.Ybulkdtni.lawS6014CWhole
