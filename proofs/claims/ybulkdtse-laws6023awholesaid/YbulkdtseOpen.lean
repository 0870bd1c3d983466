/-
  LawS6023AWhole: the argument 'entries' opened: a slice of structs, each with a slice of structs.
-/
import Derived.Test.YbulkdtseParts
import Derived.ProofKit
import Derived.Deep.Strs
import Derived.SizedLaws
namespace Go.Proofs.Ybulkdtse.lawS6023AWhole
open Go.ChangeShapes Go.WideShapes Go.ChangeAt Go.RowKit

theorem cells25 : Yba.prog.cellsOf 25 = 3 := by kernel_rfl
theorem cells50 : Yba.prog.cellsOf 50 = 3 := by kernel_rfl
theorem cells23 : Yba.prog.cellsOf 23 = 1 := by kernel_rfl
theorem cells9 : Yba.prog.cellsOf 9 = 1 := by kernel_rfl
theorem cells2 : Yba.prog.cellsOf 2 = 1 := by kernel_rfl
theorem cells3 : Yba.prog.cellsOf 3 = 1 := by kernel_rfl
theorem cells4 : Yba.prog.cellsOf 4 = 1 := by kernel_rfl
theorem bytes25 : Yba.prog.bytesOf 25 = 40 := by kernel_rfl
theorem bytes50 : Yba.prog.bytesOf 50 = 40 := by kernel_rfl

variable {H : Type} {enc : TypeId × Value → H} {w : World} {base : Nat} {spare : Nat → Bool} {held : Bool}

/-- Cells at 'a.add (i * 3)', written out. -/
theorem three_cells {a : Addr} {n : Nat} {c : Nat → Nat → Value} (h : ∀ i, i < n → ∀ j, j < 3 → w.cell? ((a.add (i * 3)).add j) = some (c i j)) (i : Nat) (hi : i < n) :
    ∃ b off, a = ⟨b, off, none⟩ ∧ b < w.heap.size ∧ w.cell? ⟨b, off + i * 3, none⟩ = some (c i 0) ∧ w.cell? ⟨b, off + i * 3 + 1, none⟩ = some (c i 1) ∧ w.cell? ⟨b, off + i * 3 + 2, none⟩ = some (c i 2) := by
  have h00 := h 0 (by omega) 0 (by omega)
  have hsp : a.spot = none := by simpa [Addr.add] using World.cell?_spot h00
  obtain ⟨b, off, sp⟩ := a
  simp only at hsp
  subst hsp
  have h0 := h i hi 0 (by omega)
  have h1 := h i hi 1 (by omega)
  have h2 := h i hi 2 (by omega)
  rw [Addr.add_lit, Addr.add_lit] at h0 h1 h2
  exact ⟨b, off, rfl, World.block_lt_of_cell? w _ h0, h0, h1, h2⟩

/-- A slice of records that came in. -/
theorem open_recs {a : Option Addr} {l c fuel : Nat} {d : DataW H} {pl : List MemPlace} (h : DataW.trod enc Yba.prog w base spare held fuel 23 [.slice a l c] = some (d, pl)) (hz : (d.weights Yba.prog 23).all (· ≤ reachBytes) = true) :
    ∃ F, SkipA w a l F ∧ (a = none → l = 0 ∧ c = 0) ∧ l * 40 ≤ 140737488351232 := by
  rcases Deep.open_slice Yba.underlying23 h with ⟨hcs, _⟩ | ⟨x, len, cap, m, n, D, Pl, hcs, hb, hl, hm, hmm, hx, hel⟩
  · simp at hcs
    obtain ⟨rfl, rfl, rfl⟩ := hcs
    exact ⟨fun _ => recZ, fun j hj => absurd hj (Nat.not_lt_zero _), fun _ => ⟨rfl, rfl⟩, by omega⟩
  · simp at hcs
    obtain ⟨rfl, rfl, rfl⟩ := hcs
    have hlm : l ≤ m := by rw [hmm]; split <;> omega
    simp only [Prod.mk.injEq] at hx
    obtain ⟨rfl, _⟩ := hx
    have hsz : l * 40 ≤ 140737488351232 := by
      simp only [DataW.weights, Yba.underlying23, List.all_cons, Bool.and_eq_true] at hz
      have h1 := of_decide_eq_true hz.1
      simp only [bytes50, List.length_map, List.length_range, reachBytes] at h1
      omega
    have each : ∀ i, i < l → ∃ r : Rec, ∀ j, j < 3 → w.cell? ((x.add (i * 3)).add j) = some (recCell (fun _ => r) j) := by
      intro i hi
      obtain ⟨cs', hc', ht⟩ := hel i (by omega)
      rw [cells50] at hc'
      obtain ⟨_, hlen, hcell⟩ := World.cells?_some hc'
      obtain ⟨y0, y1, y2, n', _, _, t0, t1, t2⟩ := Deep.trod_struct3 Yba.underlying50 ht
      match cs', hlen with
      | [c0, c1, c2], _ =>
        simp only [cells9, cells2, List.drop_zero, List.take_succ_cons, List.take_zero, List.drop_succ_cons] at t0 t1 t2
        obtain ⟨s0, e0, _, _⟩ := DataW.trod_string Yba.underlying9 t0
        obtain ⟨z1, e1, _, _⟩ := DataW.trod_int Yba.underlying2 t1
        obtain ⟨s2, e2, _, _⟩ := DataW.trod_string Yba.underlying9 t2
        simp at e0 e1 e2
        subst e0 e1 e2
        refine ⟨⟨s0, z1, s2⟩, fun j hj => ?_⟩
        rw [hcell j hj]
        match j, hj with
        | 0, _ => rfl
        | 1, _ => rfl
        | 2, _ => rfl
    have : ∃ F : Nat → Rec, ∀ i, i < l → ∀ j, j < 3 → w.cell? ((x.add (i * 3)).add j) = some (recCell (fun _ => F i) j) := by
      refine ⟨fun i => if hi : i < l then Classical.choose (each i hi) else recZ, fun i hi => ?_⟩
      simp only [dif_pos hi]
      exact Classical.choose_spec (each i hi)
    obtain ⟨F, hF⟩ := this
    refine ⟨F, fun j hj => ?_, fun h => by simp at h, hsz⟩
    obtain ⟨b, off, rfl, hbl, h0, h1, h2⟩ := three_cells hF j hj
    exact ⟨b, off, rfl, hbl, h0, h1, h2⟩

theorem weightsAll_mem {P : Program} {e : TypeId} {q : Nat → Bool} : ∀ (l : List (DataW H)), (DataW.weightsAll P e l).all q = true → ∀ d ∈ l, (d.weights P e).all q = true
  | [], _, d, hd => by cases hd
  | x :: r, h, d, hd => by
    rw [DataW.weightsAll, List.all_append, Bool.and_eq_true] at h
    rcases List.mem_cons.1 hd with rfl | hd
    · exact h.1
    · exact weightsAll_mem r h.2 d hd

/-- The entries. -/
theorem open_entries {a : Option Addr} {l c fuel : Nat} {d : DataW H} {pl : List MemPlace} (h : DataW.trod enc Yba.prog w base spare held fuel 22 [.slice a l c] = some (d, pl)) (hz : (d.weights Yba.prog 22).all (· ≤ reachBytes) = true) :
    ∃ en : Nat → Ent, ArgE w a l en ∧ (∀ j, j < l → SkipOk w (en j)) ∧ l * 40 ≤ 140737488351232 := by
  rcases Deep.open_slice Yba.underlying22 h with ⟨hcs, _⟩ | ⟨x, len, cap, m, n, D, Pl, hcs, hb, hl, hm, hmm, hx, hel⟩
  · simp at hcs
    obtain ⟨rfl, rfl, rfl⟩ := hcs
    exact ⟨fun _ => ⟨0, false, none, 0, 0, fun _ => recZ⟩, fun j hj => absurd hj (Nat.not_lt_zero _), fun j hj => absurd hj (Nat.not_lt_zero _), by omega⟩
  · simp at hcs
    obtain ⟨rfl, rfl, rfl⟩ := hcs
    have hlm : l ≤ m := by rw [hmm]; split <;> omega
    simp only [Prod.mk.injEq] at hx
    obtain ⟨rfl, _⟩ := hx
    simp only [DataW.weights, Yba.underlying22, List.all_cons, List.all_append, Bool.and_eq_true, decide_eq_true_eq, bytes25, List.length_map, List.length_range] at hz
    have hsz : l * 40 ≤ 140737488351232 := by
      have := hz.1
      simp only [reachBytes] at this
      omega
    have hin := weightsAll_mem _ hz.2.1
    have each : ∀ i, i < l → ∃ e : Ent, SkipOk w e ∧ ∀ j, j < 3 → w.cell? ((x.add (i * 3)).add j) = some ([Value.int .i64 e.task, .bool e.absent, .slice e.sa e.sl e.sc].getD j undef) := by
      intro i hi
      obtain ⟨cs', hc', ht⟩ := hel i (by omega)
      rw [cells25] at hc'
      obtain ⟨_, hlen, hcell⟩ := World.cells?_some hc'
      have hdi := hin (D i) (List.mem_map.2 ⟨i, by simpa using hi, rfl⟩)
      obtain ⟨y0, y1, y2, n', hD, _, t0, t1, t2⟩ := Deep.trod_struct3 Yba.underlying25 ht
      simp only [Prod.mk.injEq] at hD
      rw [hD.1] at hdi
      simp only [DataW.weights, Yba.underlying25, DataW.weightsEach, List.map_cons, List.map_nil, List.all_append, Bool.and_eq_true] at hdi
      match cs', hlen with
      | [c0, c1, c2], _ =>
        simp only [cells3, cells4, cells23, List.drop_zero, List.take_succ_cons, List.take_zero, List.drop_succ_cons] at t0 t1 t2
        obtain ⟨z0, e0, _, _⟩ := DataW.trod_int Yba.underlying3 t0
        obtain ⟨b1, e1, _⟩ := DataW.trod_bool Yba.underlying4 t1
        simp at e0 e1
        subst e0 e1
        obtain ⟨sa, sl, sc, rfl⟩ : ∃ sa sl sc, c2 = .slice sa sl sc := by
          rcases Deep.open_slice Yba.underlying23 t2 with ⟨hcs, _⟩ | ⟨x', len', cap', _, _, _, _, hcs, _⟩
          · simp at hcs; exact ⟨_, _, _, hcs⟩
          · simp at hcs; exact ⟨_, _, _, hcs⟩
        obtain ⟨F, hS, h0, h40⟩ := open_recs (d := y2.1) (pl := y2.2) t2 hdi.2.2.1
        refine ⟨⟨z0, b1, sa, sl, sc, F⟩, ⟨hS, h0, h40⟩, fun j hj => ?_⟩
        rw [hcell j hj]
        match j, hj with
        | 0, _ => rfl
        | 1, _ => rfl
        | 2, _ => rfl
    have : ∃ en : Nat → Ent, ∀ i, i < l → SkipOk w (en i) ∧ ∀ j, j < 3 → w.cell? ((x.add (i * 3)).add j) = some ([Value.int .i64 (en i).task, .bool (en i).absent, .slice (en i).sa (en i).sl (en i).sc].getD j undef) := by
      refine ⟨fun i => if hi : i < l then Classical.choose (each i hi) else ⟨0, false, none, 0, 0, fun _ => recZ⟩, fun i hi => ?_⟩
      simp only [dif_pos hi]
      exact Classical.choose_spec (each i hi)
    obtain ⟨en, hen⟩ := this
    refine ⟨en, fun j hj => ?_, fun j hj => (hen j hj).1, hsz⟩
    obtain ⟨b, off, rfl, hbl, h0, h1, h2⟩ := three_cells (fun i hi => (hen i hi).2) j hj
    exact ⟨b, off, rfl, hbl, h0, h1, h2⟩

end Go.Proofs.Ybulkdtse.lawS6023AWhole
