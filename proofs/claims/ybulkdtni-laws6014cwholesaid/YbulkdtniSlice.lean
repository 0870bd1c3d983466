/-
  sort.Slice, as fromLinks calls it, at uint64 and at int32: the shelf's contract laid at this dump, in the words of rows.
-/
import Derived.Test.YbulkdtniPdq
import Derived.Shelf.GgSortFunc.Whole
import Derived.Shelf.GgSortFunc.Tiny
import Derived.Shelf.SlSortFuncK.WholeK
import Derived.Ground.GgsProg
namespace Go.Proofs
open Go.Shelf
shelf_lay LaysGg.n6 Ggs 6 at Yba as Yba.sl6
end Go.Proofs
namespace Go.Proofs.Ybulkdtni.lawS6014CWhole
open Go.Shelf Go.RowKit Go.Proofs.Ybulkdtni.Own Go.Lib
open Go.Sort (swp ltInt PermIn SortedIn SWO putRow putCells Holds grow)

section
variable {α : Type} [Inhabited α]

theorem only_sorted (enc : α → Value) (w : World) (g off : Nat) (d' : Array α) (n : Nat) (os : Array Obj) (hg : g < w.heap.size) : Only g w (grow (putRow enc (Sort.ahead w n) g off d') os) := by
  have hs : (putRow enc (Sort.ahead w n) g off d').heap.size = w.heap.size := by
    simp [putRow, Sort.mapBlock, Sort.ahead]
  have hb : ∀ b, b < w.heap.size → b ≠ g → (grow (putRow enc (Sort.ahead w n) g off d') os).heap[b]? = w.heap[b]? := by
    intro b h1 h2
    show ((putRow enc (Sort.ahead w n) g off d').heap ++ os)[b]? = _
    rw [Array.getElem?_append_left (by rw [hs]; exact h1)]
    simp [putRow, Sort.mapBlock, Sort.ahead, Array.getElem?_modify]
    intro h3
    exact absurd h3.symm h2
  refine ⟨⟨rfl, rfl, rfl, ?_, fun k hk => hb k (by omega) (by omega)⟩, hb⟩
  show w.heap.size ≤ ((putRow enc (Sort.ahead w n) g off d').heap ++ os).size
  rw [Array.size_append, hs]
  omega

theorem row_sorted (enc : α → Value) {w : World} {g cap : Nat} {e : TypeId} {f : Nat → Value} (off : Nat) (d' : Array α) (n : Nat) (os : Array Obj) (h : RowF w g e cap f) :
    RowF (grow (putRow enc (Sort.ahead w n) g off d') os) g e cap (fun k => if off ≤ k ∧ k < off + d'.size then enc d'[k - off]! else f k) := by
  have hg := h.lt
  obtain ⟨cs, hc, hn, hf⟩ := h
  have hs : (putRow enc (Sort.ahead w n) g off d').heap.size = w.heap.size := by
    simp [putRow, Sort.mapBlock, Sort.ahead]
  refine ⟨putCells enc off d' cs, ?_, by simp [putCells, hn], fun k hk => ?_⟩
  · show ((putRow enc (Sort.ahead w n) g off d').heap ++ os)[g]? = _
    rw [Array.getElem?_append_left (by rw [hs]; exact hg)]
    simp [putRow, Sort.mapBlock, Sort.ahead, Array.getElem?_modify, hc, Sort.onCells]
  · have := hf k hk
    simp only [putCells, Array.getElem?_mapIdx, this, Option.map_some]

theorem holds_row (enc : α → Value) {w : World} {g cap : Nat} {e : TypeId} {f : Nat → Value} (off : Nat) (d : Array α) (h : RowF w g e cap f) (hc : off + d.size ≤ cap) (hf : ∀ j, j < d.size → f (off + j) = enc d[j]!) : Holds enc w g off d := by
  intro j hj
  have := h.cell (j := off + j) (by omega)
  rw [hf j hj] at this
  exact ⟨this, h.frozen _⟩
end

theorem less16 (g off c Bs size : Nat) (W : World) (G : Nat → Int) (hs : W.cell? ⟨Bs, 0, none⟩ = some (.slice (some ⟨g, off, none⟩) size c))
    (hc : ∀ t, t < size → W.cell? ⟨g, off + t, none⟩ = some (.int .u64 (G t))) (i j : Nat) (hi : i < size) (hj : j < size) :
    Calls Yba.prog 16 #[.int .i64 i, .int .i64 j, .pointer (some ⟨Bs, 0, none⟩)] W fun e w' => e = .returned (.bool (decide (G i < G j))) ∧ ∃ q, w' = W.drewN q := by
  have ci := hc i hi
  have cj := hc j hj
  go_enter Yba.func16, Yba.ntmps16
  go_wp2
  go_quiet (fail)
  go_wp2
  go_ret
  exact ⟨rfl, nq, rfl⟩

theorem less19 (g off c Bs size : Nat) (W : World) (G : Nat → Int) (hs : W.cell? ⟨Bs, 0, none⟩ = some (.slice (some ⟨g, off, none⟩) size c))
    (hc : ∀ t, t < size → W.cell? ⟨g, off + t, none⟩ = some (.int .i32 (G t))) (i j : Nat) (hi : i < size) (hj : j < size) :
    Calls Yba.prog 19 #[.int .i64 i, .int .i64 j, .pointer (some ⟨Bs, 0, none⟩)] W fun e w' => e = .returned (.bool (decide (G i < G j))) ∧ ∃ q, w' = W.drewN q := by
  have ci := hc i hi
  have cj := hc j hj
  go_enter Yba.func19, Yba.ntmps19
  go_wp2
  go_quiet (fail)
  go_wp2
  go_ret
  exact ⟨rfl, nq, rfl⟩


theorem info24E : ∃ ie, Yba.prog.info? 24 = some ie ∧ ie.size = 1 ∧ ie.hasPointers = false ∧ ie.bytes = 8 := by
  have h : (Yba.prog.info? 24).map (fun i => (i.size, i.hasPointers, i.bytes)) = some (1, false, 8) := by kernel_rfl
  cases hh : Yba.prog.info? 24 with
  | none => rw [hh] at h; cases h
  | some ie => rw [hh] at h; simp at h; exact ⟨ie, rfl, h.1, h.2.1, h.2.2⟩
theorem info68T : ∃ i, Yba.prog.info? 68 = some i ∧ i.desc = .slice 24 := by
  have h : (Yba.prog.info? 68).map (fun i => i.desc) = some (.slice 24) := by kernel_rfl
  cases hh : Yba.prog.info? 68 with
  | none => rw [hh] at h; cases h
  | some ie => rw [hh] at h; simp at h; exact ⟨ie, rfl, h⟩

/-- sort.Slice with fromLinks's closure 16, two elements or more. -/
theorem slice16 (w : World) (g off cap c Bs : Nat) (f : Nat → Value) (d : Array Int) (h2 : 2 ≤ d.size) (hsz : d.size ≤ 1048576) (hR : RowF w g 24 cap f) (hcap : off + d.size ≤ cap) (hf : ∀ j, j < d.size → f (off + j) = .int .u64 d[j]!)
    (hBs : w.cell? ⟨Bs, 0, none⟩ = some (.slice (some ⟨g, off, none⟩) d.size c)) (hB1 : Bs < w.heap.size) (hB2 : Bs ≠ g) :
    Calls Yba.prog 13 #[.iface 68 (.slice (some ⟨g, off, none⟩) d.size c), .func (.func 16) #[] #[.pointer (some ⟨Bs, 0, none⟩)]] w fun e w' =>
      e = .returned (.tuple #[]) ∧ ∃ d' : Array Int, PermIn 0 d.size d d' ∧ SortedIn ltInt 0 d.size d' ∧ Only g w w' ∧ RowF w' g 24 cap (fun k => if off ≤ k ∧ k < off + d.size then .int .u64 d'[k - off]! else f k) := by
  have hH : Holds (Value.int .u64) w g off d := holds_row (Value.int .u64) off d hR hcap hf
  have hg := hR.lt
  have hless : LessReads Yba.prog 16 #[.pointer (some ⟨Bs, 0, none⟩)] (Value.int .u64) ltInt g off d.size w := by
    intro m os dk hs i j hi hj
    have e : sortWorld (Value.int .u64) w g off m dk os = putRow (Value.int .u64) (grow (Sort.ahead w m) os) g off dk := by
      unfold sortWorld; rw [Sort.putRow_grow _ (Sort.ahead w m) _ g off _ hg]
    have hHg : Holds (Value.int .u64) (grow (Sort.ahead w m) os) g off d := Sort.holds_grow _ _ _ g off d hg (Sort.holds_ahead _ _ _ _ _ _ hH)
    refine less16 g off c Bs d.size _ (fun t => dk[t]!) ?_ (fun t ht => ?_) i j hi hj
    · rw [e, Sort.cell?_putRow_other _ _ g off dk _ (Or.inl (by exact hB2)), Sort.cell?_grow _ _ _ (by exact hB1)]; exact hBs
    · rw [e]; exact Sort.cell?_putRow _ _ g off d dk hHg hs t (by omega)
  obtain ⟨ie, hie, e1, e2, e3⟩ := info24E
  obtain ⟨i, hi, hid⟩ := info68T
  have hK : swapperK d.size ie 11 = 5 := by
    have z0 : (d.size == 0) = false := by simpa using (by omega : ¬ d.size = 0)
    have z1 : (d.size == 1) = false := by simpa using (by omega : ¬ d.size = 1)
    simp [swapperK, e2, e3, z0, z1]
  have hS := Any.sort_Slice_sorted Yba.sl6 68 24 i ie hi hid (by kernel_rfl) hie 11 (fun _ => by kernel_rfl) e1 (fun _ => by kernel_rfl) (Value.int .u64) (fun _ => rfl) ltInt Sort.swo_ltInt 16 #[.pointer (some ⟨Bs, 0, none⟩)]
    (enters_of Yba.func16 (by kernel_rfl) rfl) g off c d h2 (by omega) 45 (by rw [hK]; kernel_rfl) true
    (fun args W => run_callFunc_extern Yba.func45 (by kernel_rfl) (by kernel_rfl) (by kernel_rfl) (e := Extern.ReflectliteSwapper.swap true) (by kernel_rfl) args W) w hless hH hg
  change Calls Yba.prog 13 _ _ _ at hS
  refine hS.mono ?_
  rintro e w' ⟨rfl, d', n, os, hp, hs, rfl⟩
  refine ⟨rfl, d', hp, hs, only_sorted _ w g off d' n os hg, ?_⟩
  have := row_sorted (Value.int .u64) off d' n os hR
  rw [hp.1] at this
  exact this

/-- .. none or one. -/
theorem tiny16 (w : World) (p : Option Addr) (n c Bs : Nat) (h1 : n ≤ 1) :
    Calls Yba.prog 13 #[.iface 68 (.slice p n c), .func (.func 16) #[] #[.pointer (some ⟨Bs, 0, none⟩)]] w fun e w' => e = .returned (.tuple #[]) ∧ ∃ os, w' = grow w os := by
  obtain ⟨ie, hie, e1, e2, e3⟩ := info24E
  obtain ⟨i, hi, hid⟩ := info68T
  have hK : swapperK n ie 11 = n + 1 := by
    rcases Nat.eq_zero_or_pos n with h | h
    · subst h; simp [swapperK]
    · obtain rfl : n = 1 := by omega
      simp [swapperK]
  have hS := Any.sort_Slice_tiny Yba.sl6 68 24 i ie hi hid (by kernel_rfl) hie 11 (fun _ => by kernel_rfl) p n c h1 (41 + n) (by
    rw [hK]
    rcases Nat.eq_zero_or_pos n with h | h
    · subst h; kernel_rfl
    · obtain rfl : n = 1 := by omega
      kernel_rfl) (.func 16) #[] #[.pointer (some ⟨Bs, 0, none⟩)] w
  change Calls Yba.prog 13 _ _ _ at hS
  exact hS

theorem info21E : ∃ ie, Yba.prog.info? 21 = some ie ∧ ie.size = 1 ∧ ie.hasPointers = false ∧ ie.bytes = 4 := by
  have h : (Yba.prog.info? 21).map (fun i => (i.size, i.hasPointers, i.bytes)) = some (1, false, 4) := by kernel_rfl
  cases hh : Yba.prog.info? 21 with
  | none => rw [hh] at h; cases h
  | some ie => rw [hh] at h; simp at h; exact ⟨ie, rfl, h.1, h.2.1, h.2.2⟩
theorem info71T : ∃ i, Yba.prog.info? 71 = some i ∧ i.desc = .slice 21 := by
  have h : (Yba.prog.info? 71).map (fun i => i.desc) = some (.slice 21) := by kernel_rfl
  cases hh : Yba.prog.info? 71 with
  | none => rw [hh] at h; cases h
  | some ie => rw [hh] at h; simp at h; exact ⟨ie, rfl, h⟩

/-- sort.Slice with fromLinks's closure 19, two elements or more. -/
theorem slice19 (w : World) (g off cap c Bs : Nat) (f : Nat → Value) (d : Array Int) (h2 : 2 ≤ d.size) (hsz : d.size ≤ 1048576) (hR : RowF w g 21 cap f) (hcap : off + d.size ≤ cap) (hf : ∀ j, j < d.size → f (off + j) = .int .i32 d[j]!)
    (hBs : w.cell? ⟨Bs, 0, none⟩ = some (.slice (some ⟨g, off, none⟩) d.size c)) (hB1 : Bs < w.heap.size) (hB2 : Bs ≠ g) :
    Calls Yba.prog 13 #[.iface 71 (.slice (some ⟨g, off, none⟩) d.size c), .func (.func 19) #[] #[.pointer (some ⟨Bs, 0, none⟩)]] w fun e w' =>
      e = .returned (.tuple #[]) ∧ ∃ d' : Array Int, PermIn 0 d.size d d' ∧ SortedIn ltInt 0 d.size d' ∧ Only g w w' ∧ RowF w' g 21 cap (fun k => if off ≤ k ∧ k < off + d.size then .int .i32 d'[k - off]! else f k) := by
  have hH : Holds (Value.int .i32) w g off d := holds_row (Value.int .i32) off d hR hcap hf
  have hg := hR.lt
  have hless : LessReads Yba.prog 19 #[.pointer (some ⟨Bs, 0, none⟩)] (Value.int .i32) ltInt g off d.size w := by
    intro m os dk hs i j hi hj
    have e : sortWorld (Value.int .i32) w g off m dk os = putRow (Value.int .i32) (grow (Sort.ahead w m) os) g off dk := by
      unfold sortWorld; rw [Sort.putRow_grow _ (Sort.ahead w m) _ g off _ hg]
    have hHg : Holds (Value.int .i32) (grow (Sort.ahead w m) os) g off d := Sort.holds_grow _ _ _ g off d hg (Sort.holds_ahead _ _ _ _ _ _ hH)
    refine less19 g off c Bs d.size _ (fun t => dk[t]!) ?_ (fun t ht => ?_) i j hi hj
    · rw [e, Sort.cell?_putRow_other _ _ g off dk _ (Or.inl (by exact hB2)), Sort.cell?_grow _ _ _ (by exact hB1)]; exact hBs
    · rw [e]; exact Sort.cell?_putRow _ _ g off d dk hHg hs t (by omega)
  obtain ⟨ie, hie, e1, e2, e3⟩ := info21E
  obtain ⟨i, hi, hid⟩ := info71T
  have hK : swapperK d.size ie 5 = 6 := by
    have z0 : (d.size == 0) = false := by simpa using (by omega : ¬ d.size = 0)
    have z1 : (d.size == 1) = false := by simpa using (by omega : ¬ d.size = 1)
    simp [swapperK, e2, e3, z0, z1]
  have hS := Any.sort_Slice_sorted Yba.sl6 71 21 i ie hi hid (by kernel_rfl) hie 5 (fun _ => by kernel_rfl) e1 (fun _ => by kernel_rfl) (Value.int .i32) (fun _ => rfl) ltInt Sort.swo_ltInt 19 #[.pointer (some ⟨Bs, 0, none⟩)]
    (enters_of Yba.func19 (by kernel_rfl) rfl) g off c d h2 (by omega) 46 (by rw [hK]; kernel_rfl) true
    (fun args W => run_callFunc_extern Yba.func46 (by kernel_rfl) (by kernel_rfl) (by kernel_rfl) (e := Extern.ReflectliteSwapper.swap true) (by kernel_rfl) args W) w hless hH hg
  change Calls Yba.prog 13 _ _ _ at hS
  refine hS.mono ?_
  rintro e w' ⟨rfl, d', n, os, hp, hs, rfl⟩
  refine ⟨rfl, d', hp, hs, only_sorted _ w g off d' n os hg, ?_⟩
  have := row_sorted (Value.int .i32) off d' n os hR
  rw [hp.1] at this
  exact this

/-- .. none or one. -/
theorem tiny19 (w : World) (p : Option Addr) (n c Bs : Nat) (h1 : n ≤ 1) :
    Calls Yba.prog 13 #[.iface 71 (.slice p n c), .func (.func 19) #[] #[.pointer (some ⟨Bs, 0, none⟩)]] w fun e w' => e = .returned (.tuple #[]) ∧ ∃ os, w' = grow w os := by
  obtain ⟨ie, hie, e1, e2, e3⟩ := info21E
  obtain ⟨i, hi, hid⟩ := info71T
  have hK : swapperK n ie 5 = n + 1 := by
    rcases Nat.eq_zero_or_pos n with h | h
    · subst h; simp [swapperK]
    · obtain rfl : n = 1 := by omega
      simp [swapperK]
  have hS := Any.sort_Slice_tiny Yba.sl6 71 21 i ie hi hid (by kernel_rfl) hie 5 (fun _ => by kernel_rfl) p n c h1 (41 + n) (by
    rw [hK]
    rcases Nat.eq_zero_or_pos n with h | h
    · subst h; kernel_rfl
    · obtain rfl : n = 1 := by omega
      kernel_rfl) (.func 19) #[] #[.pointer (some ⟨Bs, 0, none⟩)] w
  change Calls Yba.prog 13 _ _ _ at hS
  exact hS

end Go.Proofs.Ybulkdtni.lawS6014CWhole
