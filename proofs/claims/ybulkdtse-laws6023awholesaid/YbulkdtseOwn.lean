/-
  Rows of one-cell elements that the call itself makes: 'RowF w g e n f': block g is a row of n cells of type e, none frozen, cell j holding 'f j'. My own small kit for this project's walks.
-/
import Derived.WalkKit
import Derived.WalkSmall
import Derived.MapKept
namespace Go.Proofs.Ybulkdtse.Own
open Go.RowKit

theorem hide {p : Prop} (h : p) : Hid p := h
theorem unhide {p : Prop} (h : Hid p) : p := h

def RowF (w : World) (g : Nat) (e : TypeId) (n : Nat) (f : Nat → Value) : Prop :=
  ∃ cs : Array Value, w.heap[g]? = some (.cells cs e (0, 0)) ∧ cs.size = n ∧ ∀ j, j < n → cs[j]? = some (f j)

theorem RowF.lt {w : World} {g : Nat} {e : TypeId} {n : Nat} {f : Nat → Value} (h : RowF w g e n f) : g < w.heap.size := by
  obtain ⟨cs, hc, _⟩ := h
  exact lt_of_block hc

theorem RowF.cell {w : World} {g : Nat} {e : TypeId} {n : Nat} {f : Nat → Value} (h : RowF w g e n f) {j : Nat} (hj : j < n) : w.cell? ⟨g, j, none⟩ = some (f j) := by
  obtain ⟨cs, hc, hn, hf⟩ := h
  rw [cell_of_row w g j cs e (0, 0) hc]
  exact hf j hj

theorem RowF.frozen {w : World} {g : Nat} {e : TypeId} {n : Nat} {f : Nat → Value} (h : RowF w g e n f) (j : Nat) : w.frozen? ⟨g, j, none⟩ = false := by
  obtain ⟨cs, hc, _⟩ := h
  exact frozen_of_row w g j cs e hc

theorem RowF.of_block {w w' : World} {g : Nat} {e : TypeId} {n : Nat} {f : Nat → Value} (h : RowF w g e n f) (hb : w'.heap[g]? = w.heap[g]?) : RowF w' g e n f := by
  obtain ⟨cs, hc, r⟩ := h
  exact ⟨cs, hb.trans hc, r⟩

theorem RowF.below {w w' : World} {g B : Nat} {e : TypeId} {n : Nat} {f : Nat → Value} (h : RowF w g e n f) (hb : Below B w w') (hg : g < B) : RowF w' g e n f := h.of_block (hb.block g hg)

theorem RowF.alloc {w : World} {g : Nat} {e : TypeId} {n : Nat} {f : Nat → Value} (h : RowF w g e n f) (o : Obj) : RowF (w.alloc o) g e n f := h.of_block (Below.heap_alloc w o g h.lt)

theorem RowF.other {w : World} {g : Nat} {e : TypeId} {n : Nat} {f : Nat → Value} (h : RowF w g e n f) {a : Addr} (ha : g ≠ a.block) (u : Value) : RowF (w.setCell a u) g e n f := h.of_block (Below.heap_setCell w a u g ha)

theorem RowF.drew {w : World} {g : Nat} {e : TypeId} {n : Nat} {f : Nat → Value} (h : RowF w g e n f) : RowF w.drew g e n f := h

theorem RowF.drewN {w : World} {g : Nat} {e : TypeId} {n : Nat} {f : Nat → Value} (h : RowF w g e n f) (q : Nat) : RowF (w.drewN q) g e n f := h

theorem RowF.store {w : World} {g : Nat} {e : TypeId} {n : Nat} {f f' : Nat → Value} (h : RowF w g e n f) (k : Nat) (u : Value) (hk : k < n → f' k = u) (hf : ∀ j, j < n → j ≠ k → f' j = f j) : RowF (w.setCell ⟨g, k, none⟩ u) g e n f' := by
  obtain ⟨cs, hc, hn, hcs⟩ := h
  refine ⟨cs.setIfInBounds k u, heap_setCell_same w g k cs e u hc, by simpa using hn, fun j hj => ?_⟩
  rw [Array.getElem?_setIfInBounds]
  by_cases hjk : k = j
  · subst hjk
    rw [if_pos rfl, if_pos (by omega), hk hj]
  · rw [if_neg hjk, hcs j hj, hf j hj (fun e => hjk e.symm)]

theorem RowF.congr {w : World} {g : Nat} {e : TypeId} {n : Nat} {f f' : Nat → Value} (h : RowF w g e n f) (hf : ∀ j, j < n → f' j = f j) : RowF w g e n f' := by
  obtain ⟨cs, hc, hn, hcs⟩ := h
  exact ⟨cs, hc, hn, fun j hj => by rw [hcs j hj, hf j hj]⟩

theorem RowF.rep {w : World} {g : Nat} {e : TypeId} {n : Nat} {z : Value} (h : RowF w g e n (fun _ => z)) : w.heap[g]? = some (.cells (List.replicate n z).toArray e (0, 0)) := by
  obtain ⟨cs, hc, hn, hcs⟩ := h
  rw [hc]
  congr 2
  apply Array.ext_getElem?
  intro j
  by_cases hj : j < n
  · rw [hcs j hj]; simp [hj]
  · rw [Array.getElem?_eq_none (by omega)]; simp [hj]

/-- The first n cells of a row of the call's own (there may be more behind them). -/
def RowP (w : World) (g : Nat) (e : TypeId) (n : Nat) (f : Nat → Value) : Prop :=
  ∃ cs : Array Value, w.heap[g]? = some (.cells cs e (0, 0)) ∧ ∀ j, j < n → cs[j]? = some (f j)

theorem RowF.toP {w : World} {g : Nat} {e : TypeId} {n : Nat} {f : Nat → Value} (h : RowF w g e n f) : RowP w g e n f := by
  obtain ⟨cs, hc, _, hf⟩ := h
  exact ⟨cs, hc, hf⟩

theorem RowP.lt {w : World} {g : Nat} {e : TypeId} {n : Nat} {f : Nat → Value} (h : RowP w g e n f) : g < w.heap.size := by
  obtain ⟨cs, hc, _⟩ := h
  exact lt_of_block hc

theorem RowP.cell {w : World} {g : Nat} {e : TypeId} {n : Nat} {f : Nat → Value} (h : RowP w g e n f) {j : Nat} (hj : j < n) : w.cell? ⟨g, j, none⟩ = some (f j) := by
  obtain ⟨cs, hc, hf⟩ := h
  rw [cell_of_row w g j cs e (0, 0) hc]
  exact hf j hj

theorem RowP.frozen {w : World} {g : Nat} {e : TypeId} {n : Nat} {f : Nat → Value} (h : RowP w g e n f) (j : Nat) : w.frozen? ⟨g, j, none⟩ = false := by
  obtain ⟨cs, hc, _⟩ := h
  exact frozen_of_row w g j cs e hc

theorem RowP.of_block {w w' : World} {g : Nat} {e : TypeId} {n : Nat} {f : Nat → Value} (h : RowP w g e n f) (hb : w'.heap[g]? = w.heap[g]?) : RowP w' g e n f := by
  obtain ⟨cs, hc, r⟩ := h
  exact ⟨cs, hb.trans hc, r⟩

/-- Rows of different element types lie in different blocks. -/
theorem RowF.ne {w : World} {g h : Nat} {e e' : TypeId} {n n' : Nat} {f f' : Nat → Value} (a : RowF w g e n f) (b : RowF w h e' n' f') (hne : e ≠ e') : g ≠ h := by
  rintro rfl
  obtain ⟨cs, hc, _⟩ := a
  obtain ⟨cs', hc', _⟩ := b
  rw [hc] at hc'
  simp at hc'
  exact hne hc'.2

/-- A new block of cells. -/
theorem rowF_alloc (w : World) (cs : List Value) (e : TypeId) : RowF (w.alloc (.cells cs.toArray e)) w.heap.size e cs.length (fun j => cs.getD j undef) :=
  ⟨cs.toArray, heap_alloc_new w _, by simp, fun j hj => by simp [List.getD, hj]⟩

/-- 'make([]T, n)' at an element type of 'size' cells: a row of zero values in a new block g. -/
theorem wpList_make_rows {P : Program} {w : World} {ops : Array Oper} {rest : List Oper} {o : Oper} {a : Act} {Q : Exit → Act → World → Prop}
    (hg : o.guard = none) (l c : Operand) (t : TypeId) (hop : o.op = Op.makeSlice t l c)
    (e : TypeId) (z : Value) (size bytes : Nat) (h1 : P.underlying t = some (.slice e)) (h2 : (P.info? e).map (fun i => (i.zero, i.size, i.bytes)) = some (some z, size, bytes))
    (kl kc : IntKind) (L C : Int) (n : Nat) (hl : a.eval l = .int kl L) (hc : a.eval c = .int kc C) (hL : L = (n : Int)) (hC : C = (n : Int)) (b2 : bytes * n ≤ 281474976710656) (b3 : n ≤ maxLen) (F0 : Nat → Value) (hF : ∀ j, F0 j = z.cells[j % z.cells.size]!)
    (hK : ∀ g w', Hid (g = w.heap.size) → Hid (w'.heap.size = g + 1) → RowF w' g e (n * size) F0 → Below g w w' → wpList P ops Q rest (a.put o.dst (.slice (some ⟨g, 0, none⟩) n n)) w') :
    wpList P ops Q (o :: rest) a w := by
  obtain ⟨i, hi, hz0, hz1, hz2⟩ := info_parts h2
  refine wpList_plain hg fun K hK' => ?_
  have h63' : (n : Int) ≤ 9223372036854775807 := by
    have h := b3
    simp [maxLen] at h
    omega
  have hb' : (i.bytes : Int) * (n : Int) ≤ 281474976710656 := by
    have h : ((i.bytes * n : Nat) : Int) ≤ 281474976710656 := by rw [hz2]; omega
    rwa [Int.natCast_mul] at h
  have hr := run_make (P := P) w t e i z h1 hi hz0 kl kc n n (by omega) (Int.le_refl _) hb' h63'
  simp only [Int.toNat_natCast] at hr
  subst hL
  subst hC
  unfold Oper.wp
  simp [execOp, hop, hl, hc, hr, Result.andThen]
  refine hK' _ _ (hK w.heap.size _ rfl ?_ ?_ ((Below.refl _ _).alloc (Nat.le_refl _) _))
  · show (w.alloc _).heap.size = _
    simp
  · refine ⟨_, heap_alloc_new w _, by rw [size_madeCells, hz1], fun j hj => ?_⟩
    rw [hz1, hF]
    simp [madeCells, hj]

/-- The run of 'mapUpdate', 'lookup', 'len' on a map told by a plain function 'look' on its keys (each key the value 'encK k'). -/
def MapF {κ : Type} (w : World) (r : Nat) (encK : κ → Value) (look : κ → Option Value) (n : Nat) : Prop :=
  ∃ es clock, w.heap[r]? = some (.map es clock) ∧ es.size = n ∧ (∀ x ∈ es.toList, ∃ k, x.key = encK k) ∧
    (∀ k v, look k = some v ↔ ∃ i : Nat, ∃ e : MapEntry, es[i]? = some e ∧ e.key = encK k ∧ e.val = v) ∧
    (∀ i j : Nat, ∀ e f : MapEntry, es[i]? = some e → es[j]? = some f → e.key = f.key → i = j)

theorem MapF.of_block {κ : Type} {w w' : World} {r : Nat} {encK : κ → Value} {look : κ → Option Value} {n : Nat} (h : MapF w r encK look n) (hb : w'.heap[r]? = w.heap[r]?) : MapF w' r encK look n := by
  obtain ⟨es, cl, h1, h2⟩ := h
  exact ⟨es, cl, hb.trans h1, h2⟩

theorem MapF.lt {κ : Type} {w : World} {r : Nat} {encK : κ → Value} {look : κ → Option Value} {n : Nat} (h : MapF w r encK look n) : r < w.heap.size := by
  obtain ⟨es, cl, h1, _⟩ := h
  exact lt_of_block h1

theorem mapF_made {κ : Type} (w : World) (encK : κ → Value) : MapF (w.alloc (.map #[] 0)) w.heap.size encK (fun _ => none) 0 :=
  ⟨#[], 0, heap_alloc_new w _, rfl, by simp, by simp, by simp⟩

/-- A map is no row. -/
theorem MapF.ne_row {κ : Type} {w : World} {r : Nat} {encK : κ → Value} {look : κ → Option Value} {n : Nat} (h : MapF w r encK look n) {g : Nat} {e : TypeId} {m : Nat} {f : Nat → Value} (hr : RowF w g e m f) : r ≠ g := by
  rintro rfl
  obtain ⟨es, cl, h1, _⟩ := h
  obtain ⟨cs, h2, _⟩ := hr
  rw [h1] at h2
  simp at h2

section
variable {κ : Type} {P : Program} {w : World} {mty kt et : TypeId} {d : TypeDesc} {r : Nat} {encK : κ → Value} {look : κ → Option Value} {n : Nat}

theorem MapF.find (h : MapF w r encK look n) (hK : ∀ k, MapKept.IsKey d (encK k)) (k : κ) :
    ∃ es clock, w.heap[r]? = some (.map es clock) ∧ es.size = n ∧
      ((look k = none ∧ Instr.findNow d (encK k) es.toList 0 = some none) ∨ ∃ j v, look k = some v ∧ Instr.findNow d (encK k) es.toList 0 = some (some (j, v))) := by
  obtain ⟨es, cl, h1, h2, h3, h4, h5⟩ := h
  refine ⟨es, cl, h1, h2, ?_⟩
  rcases MapKept.findNow_spec (hK k) es.toList 0 (fun x hx => by obtain ⟨k', e⟩ := h3 x hx; rw [e]; exact hK k') with ⟨hn, hno⟩ | ⟨j, e, hf, hj, hk⟩
  · refine .inl ⟨?_, hn⟩
    cases hl : look k with
    | none => rfl
    | some v =>
      obtain ⟨i, e, hi, he, _⟩ := (h4 k v).1 hl
      exact absurd he (hno e (List.mem_of_getElem? (by simpa using hi)))
  · rw [Nat.zero_add] at hf
    exact .inr ⟨j, e.val, (h4 k e.val).2 ⟨j, e, by simpa using hj, hk, rfl⟩, hf⟩

theorem MapF.run_lookup (h : MapF w r encK look n) (hm : P.underlying mty = some (.map kt et)) (hd : P.underlying kt = some d) (hK : ∀ k, MapKept.IsKey d (encK k)) {z : Value} (hz : (zeroValue et).run P w = .ok z w) (k : κ) (c : Bool) :
    (Instr.lookup mty (.map (some r)) (encK k) c).run P w = .ok (if c then .tuple #[(look k).getD z, .bool (look k).isSome] else (look k).getD z) w := by
  obtain ⟨es, cl, hb, _, hf | ⟨j, v, hv, hf⟩⟩ := h.find hK k
  · simp [Instr.lookup, run_underlying hm, MapKept.run_getObj_map hb, MapKept.run_checkKey hd (hK k), MapKept.run_findKey hd hf.2, hf.1, hz, Result.andThen]
  · simp [Instr.lookup, run_underlying hm, MapKept.run_getObj_map hb, MapKept.run_checkKey hd (hK k), MapKept.run_findKey hd hf, hv, Result.andThen]

theorem run_lookup_nil (hm : P.underlying mty = some (.map kt et)) (hd : P.underlying kt = some d) {k : Value} (hk : MapKept.IsKey d k) {z : Value} (hz : (zeroValue et).run P w = .ok z w) (c : Bool) :
    (Instr.lookup mty (.map none) k c).run P w = .ok (if c then .tuple #[z, .bool false] else z) w := by
  simp [Instr.lookup, run_underlying hm, MapKept.run_checkKey hd hk, MapKept.run_findKey (P := P) (l := []) (a := none) hd rfl, hz, Result.andThen]

theorem MapF.run_len (h : MapF w r encK look n) (hm : P.underlying mty = some (.map kt et)) (t : TypeId) : (Builtin.len_ #[mty] t #[.map (some r)]).run P w = .ok (goInt n) w := by
  obtain ⟨es, cl, hb, rfl, _⟩ := h
  simp [Builtin.len_, run_underlying hm, MapKept.run_getObj_map hb, Result.andThen]

theorem MapF.run_update [DecidableEq κ] (h : MapF w r encK look n) (hm : P.underlying mty = some (.map kt et)) (hd : P.underlying kt = some d) (hK : ∀ k, MapKept.IsKey d (encK k)) (hinj : ∀ a b, encK a = encK b → a = b) (k : κ) (v : Value) :
    ∃ w' n', (Instr.mapUpdate mty (.map (some r)) (encK k) v).run P w = .ok () w' ∧ MapF w' r encK (fun x => if x = k then some v else look x) n' ∧ w.grownBy w' (some r) ∧ w'.heap.size = w.heap.size := by
  obtain ⟨es, cl, hb, h2, h3, h4, h5⟩ := h
  rcases MapKept.findNow_spec (hK k) es.toList 0 (fun x hx => by obtain ⟨k', e⟩ := h3 x hx; rw [e]; exact hK k') with ⟨hn, hno⟩ | ⟨j, e, hf, hj, hk⟩
  · refine ⟨{ w with heap := w.heap.setIfInBounds r (.map (es.push { key := encK k, val := v, born := cl }) (cl + 1)) }, es.size + 1, by simp [Instr.mapUpdate, run_underlying hm, MapKept.run_getObj_map hb, MapKept.run_checkKey hd (hK k), MapKept.run_findKey hd hn, MapKept.run_setObj_map _ hb, Result.andThen], ?_, ⟨rfl, rfl, rfl, by simp, fun i _ hi => (MapKept.heap_set hb).2 i (fun e => hi (by rw [e]))⟩, by simp⟩
    refine ⟨_, _, (MapKept.heap_set hb).1, by simp, ?_, ?_, ?_⟩
    · intro x hx
      simp only [Array.toList_push, List.mem_append, List.mem_singleton] at hx
      rcases hx with hx | rfl
      · exact h3 x hx
      · exact ⟨k, rfl⟩
    · intro k' v'
      by_cases hkk : k' = k
      · subst hkk
        simp only [if_true, Option.some.injEq]
        constructor
        · rintro rfl
          exact ⟨es.size, { key := encK k', val := v, born := cl }, by simp, rfl, rfl⟩
        · rintro ⟨i, e, hi, he, hv⟩
          rw [Array.getElem?_push] at hi
          split at hi
          · cases hi; exact hv
          · exact absurd he (hno e (List.mem_of_getElem? (by simpa using hi)))
      · simp only [if_neg hkk]
        rw [h4]
        constructor
        · rintro ⟨i, e, hi, he, hv⟩
          refine ⟨i, e, ?_, he, hv⟩
          have : i < es.size := (Array.getElem?_eq_some_iff.1 hi).1
          rw [Array.getElem?_push, if_neg (by omega)]
          exact hi
        · rintro ⟨i, e, hi, he, hv⟩
          rw [Array.getElem?_push] at hi
          split at hi
          · cases hi
            exact absurd (hinj _ _ he).symm hkk
          · exact ⟨i, e, hi, he, hv⟩
    · intro i j a b hi hj hab
      rw [Array.getElem?_push] at hi hj
      split at hi
      · split at hj
        · omega
        · cases hi
          exact absurd hab.symm (hno b (List.mem_of_getElem? (by simpa using hj)))
      · split at hj
        · cases hj
          exact absurd hab (hno a (List.mem_of_getElem? (by simpa using hi)))
        · exact h5 i j a b hi hj hab
  · rw [Nat.zero_add] at hf
    have hj' : es[j]? = some e := by simpa using hj
    have hjs : j < es.size := (Array.getElem?_eq_some_iff.1 hj').1
    refine ⟨{ w with heap := w.heap.setIfInBounds r (.map (es.modify j fun e => { e with key := encK k, val := v }) cl) }, es.size, by simp [Instr.mapUpdate, run_underlying hm, MapKept.run_getObj_map hb, MapKept.run_checkKey hd (hK k), MapKept.run_findKey hd hf, hj', hk, MapKept.run_keyThatStays (hK k), MapKept.run_setObj_map _ hb, Result.andThen], ?_, ⟨rfl, rfl, rfl, by simp, fun i _ hi => (MapKept.heap_set hb).2 i (fun e => hi (by rw [e]))⟩, by simp⟩
    have hget : ∀ i x, (es.modify j fun e => { e with key := encK k, val := v })[i]? = some x ↔ (i = j ∧ x = { e with key := encK k, val := v }) ∨ (i ≠ j ∧ es[i]? = some x) := by
      intro i x
      rw [Array.getElem?_modify]
      by_cases hij : j = i
      · subst hij
        rw [if_pos rfl, hj']
        simp [eq_comm]
      · rw [if_neg hij]
        simp [Ne.symm hij]
    refine ⟨_, _, (MapKept.heap_set hb).1, by simp, ?_, ?_, ?_⟩
    · intro x hx
      obtain ⟨i, hi⟩ := List.getElem?_of_mem hx
      rw [Array.getElem?_toList] at hi
      rcases (hget i x).1 hi with ⟨_, rfl⟩ | ⟨_, hi⟩
      · exact ⟨k, rfl⟩
      · exact h3 x (List.mem_of_getElem? (by simpa using hi))
    · intro k' v'
      by_cases hkk : k' = k
      · subst hkk
        simp only [if_true, Option.some.injEq]
        constructor
        · rintro rfl
          exact ⟨j, _, (hget j _).2 (.inl ⟨rfl, rfl⟩), rfl, rfl⟩
        · rintro ⟨i, x, hi, he, hv⟩
          rcases (hget i x).1 hi with ⟨_, rfl⟩ | ⟨hne, hi⟩
          · exact hv
          · exact absurd (h5 i j x e hi hj' (he.trans hk.symm)) hne
      · simp only [if_neg hkk]
        rw [h4]
        constructor
        · rintro ⟨i, x, hi, he, hv⟩
          refine ⟨i, x, (hget i x).2 (.inr ⟨?_, hi⟩), he, hv⟩
          rintro rfl
          rw [hj'] at hi
          cases hi
          exact hkk (hinj _ _ (he.symm.trans hk))
        · rintro ⟨i, x, hi, he, hv⟩
          rcases (hget i x).1 hi with ⟨_, rfl⟩ | ⟨hne, hi⟩
          · exact absurd (hinj _ _ he).symm hkk
          · exact ⟨i, x, hi, he, hv⟩
    · intro i i' a b hi hi' hab
      rcases (hget i a).1 hi with ⟨q, q'⟩ | ⟨hne, hi2⟩
      · subst q; subst q'
        rcases (hget i' b).1 hi' with ⟨q, _⟩ | ⟨hne', hi2'⟩
        · exact q.symm
        · exact h5 i i' e b hj' hi2' (hk.trans hab)
      · rcases (hget i' b).1 hi' with ⟨q, q'⟩ | ⟨hne', hi2'⟩
        · subst q; subst q'
          exact h5 i i' a e hi2 hj' (hab.trans hk.symm)
        · exact h5 i i' a b hi2 hi2' hab
end

end Go.Proofs.Ybulkdtse.Own
