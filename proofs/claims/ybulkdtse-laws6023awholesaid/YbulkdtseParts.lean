/-
  LawS6023AWhole: the plain words, and the contracts of its callees.
-/
import Derived.Test.YbulkdtseOwn
import Derived.Test.YbulkdtseRows
import Derived.WalkSpells
import Derived.Deep.QuietTactic
import Derived.BigQuiet
import Derived.Deep.DeepCutAuto
import Derived.Deep.CutBlock
import Derived.RegionTactic
import Derived.BigRegion
import Derived.Deep.RegionWith
import Derived.Deep.RegionHeld3
namespace Go.Proofs.Ybulkdtse.lawS6023AWhole
open Go.RowKit Go.Proofs.Ybulkdtse.Own

structure Rec where
  file : ByteArray
  off : Int
  key : ByteArray

def recZ : Rec := ⟨⟨#[]⟩, 0, ⟨#[]⟩⟩

/-- The cells of a row of records. -/
def recCell (F : Nat → Rec) (j : Nat) : Value := if j % 3 = 0 then .string (F (j / 3)).file else if j % 3 = 1 then .int .i64 (F (j / 3)).off else .string (F (j / 3)).key

theorem recCell_0 (F : Nat → Rec) (k : Nat) : recCell F (k * 3) = .string (F k).file := by
  unfold recCell; rw [if_pos (by omega), show k * 3 / 3 = k by omega]
theorem recCell_1 (F : Nat → Rec) (k : Nat) : recCell F (k * 3 + 1) = .int .i64 (F k).off := by
  unfold recCell; rw [if_neg (by omega), if_pos (by omega), show (k * 3 + 1) / 3 = k by omega]
theorem recCell_2 (F : Nat → Rec) (k : Nat) : recCell F (k * 3 + 2) = .string (F k).key := by
  unfold recCell; rw [if_neg (by omega), if_neg (by omega), show (k * 3 + 2) / 3 = k by omega]

def upTo (F : Nat → Rec) (k : Nat) (j : Nat) : Rec := if j < k then F j else recZ

theorem info48 : (Yba.prog.info? 48).map (fun i => (i.zero, i.size, i.bytes)) = some (some (.agg #[.string ⟨#[]⟩, .int .i64 0, .string ⟨#[]⟩]), 3, 40) := by kernel_rfl

theorem row_start (F : Nat → Rec) (j : Nat) : recCell (upTo F 0) j = (Value.agg #[.string ⟨#[]⟩, .int .i64 0, .string ⟨#[]⟩]).cells[j % (Value.agg #[.string ⟨#[]⟩, .int .i64 0, .string ⟨#[]⟩]).cells.size]! := by
  have : j % 3 = 0 ∨ j % 3 = 1 ∨ j % 3 = 2 := by omega
  show recCell _ j = (#[Value.string ⟨#[]⟩, .int .i64 0, .string ⟨#[]⟩] : Array Value)[j % 3]!
  rcases this with h | h | h <;> simp [recCell, upTo, h, recZ]

theorem row_step {w : World} {g n k : Nat} {F : Nat → Rec} (h : RowF w g 48 (n * 3) (recCell (upTo F k))) {a : ByteArray} {b : Int} {c : ByteArray} (e1 : a = (F k).file) (e2 : b = (F k).off) (e3 : c = (F k).key) :
    RowF (((w.setCell ⟨g, k * 3, none⟩ (.string a)).setCell ⟨g, k * 3 + 1, none⟩ (.int .i64 b)).setCell ⟨g, k * 3 + 2, none⟩ (.string c)) g 48 (n * 3) (recCell (upTo F (k + 1))) := by
  subst e1 e2 e3
  refine ((h.store (k * 3) _ (f' := fun j => if j = k * 3 then .string (F k).file else recCell (upTo F k) j) (fun _ => if_pos rfl) (fun j _ hj => if_neg hj)).store (k * 3 + 1) _ (f' := fun j => if j = k * 3 + 1 then .int .i64 (F k).off else if j = k * 3 then .string (F k).file else recCell (upTo F k) j) (fun _ => if_pos rfl) (fun j _ hj => if_neg hj)).store (k * 3 + 2) _ (fun _ => ?_) (fun j _ hj => ?_)
  · rw [recCell_2]; simp [upTo]
  · by_cases h1 : j = k * 3 + 1
    · subst h1
      rw [if_pos rfl, recCell_1]; simp [upTo]
    · rw [if_neg h1]
      by_cases h0 : j = k * 3
      · subst h0
        rw [if_pos rfl, recCell_0]; simp [upTo]
      · rw [if_neg h0]
        have : upTo F (k + 1) (j / 3) = upTo F k (j / 3) := by
          unfold upTo
          by_cases hlt : j / 3 < k
          · rw [if_pos hlt, if_pos (by omega)]
          · rw [if_neg hlt, if_neg (by omega)]
        unfold recCell
        rw [this]

theorem upTo_all {F : Nat → Rec} {n : Nat} {w : World} {g : Nat} (h : RowF w g 48 (n * 3) (recCell (upTo F n))) : RowF w g 48 (n * 3) (recCell F) := by
  refine h.congr (fun j hj => ?_)
  have : upTo F n (j / 3) = F (j / 3) := if_pos (by omega)
  unfold recCell
  rw [this]

/-- A slice of records in the call's own memory, or nil. -/
def OwnRec (w : World) (v : Value) (nil : Bool) (n : Nat) (F : Nat → Rec) : Prop :=
  if nil then v = .slice none 0 0 ∧ n = 0 else ∃ g c, v = .slice (some ⟨g, 0, none⟩) n c ∧ n ≤ c ∧ RowP w g 48 (n * 3) (recCell F)

theorem OwnRec.of_blocks {w w' : World} {v : Value} {nil : Bool} {n : Nat} {F : Nat → Rec} (h : OwnRec w v nil n F) (hb : ∀ r, r < w.heap.size → w'.heap[r]? = w.heap[r]?) : OwnRec w' v nil n F := by
  unfold OwnRec at *
  cases nil with
  | true => exact h
  | false =>
    obtain ⟨g, c, e, hc, hr⟩ := h
    exact ⟨g, c, e, hc, hr.of_block (hb g hr.lt)⟩

/-- The records of a slice that came in. -/
def SkipA (w : World) (a : Option Addr) (n : Nat) (F : Nat → Rec) : Prop :=
  ∀ j, j < n → ∃ b off, a = some ⟨b, off, none⟩ ∧ b < w.heap.size ∧ w.cell? ⟨b, off + j * 3, none⟩ = some (.string (F j).file) ∧ w.cell? ⟨b, off + j * 3 + 1, none⟩ = some (.int .i64 (F j).off) ∧ w.cell? ⟨b, off + j * 3 + 2, none⟩ = some (.string (F j).key)

theorem SkipA.at {w wr : World} {a : Option Addr} {n : Nat} {F : Nat → Rec} (h : SkipA w a n F) (hb : Below w.heap.size w wr) {j : Nat} (hj : j < n) :
    ∃ b off, a = some ⟨b, off, none⟩ ∧ b < w.heap.size ∧ wr.cell? ⟨b, off + j * 3, none⟩ = some (.string (F j).file) ∧ wr.cell? ⟨b, off + j * 3 + 1, none⟩ = some (.int .i64 (F j).off) ∧ wr.cell? ⟨b, off + j * 3 + 2, none⟩ = some (.string (F j).key) := by
  obtain ⟨b, off, ha, hl, h0, h1, h2⟩ := h j hj
  exact ⟨b, off, ha, hl, by rw [hb.cell (by exact hl)]; exact h0, by rw [hb.cell (by exact hl)]; exact h1, by rw [hb.cell (by exact hl)]; exact h2⟩

theorem recs_nil (w : World) : Calls Yba.prog 4 #[.slice none 0 0] w fun e w' => e = .returned (.slice none 0 0) ∧ w' = w := by
  have hnil := fun w => Lib.run_eql_slice_nil (P := Yba.prog) w 23 50 none 0 0 0 0 Yba.underlying23
  go_enter Yba.func4, Yba.ntmps4
  go_wp2
  go_ret
  exact ⟨rfl, rfl⟩

set_option maxHeartbeats 1000000 in
theorem recs_some (x : Addr) (n c : Nat) (F : Nat → Rec) (w : World) (hn : n * 40 ≤ 140737488351232) (hA : Hid (SkipA w (some x) n F)) :
    Calls Yba.prog 4 #[.slice (some x) n c] w fun e w' => ∃ g, e = .returned (.slice (some ⟨g, 0, none⟩) n n) ∧ g = w.heap.size ∧ RowF w' g 48 (n * 3) (recCell F) ∧ Below w.heap.size w w' := by
  have hnil := fun w => Lib.run_eql_slice_nil (P := Yba.prog) w 23 50 (some x) n c 0 0 Yba.underlying23
  go_enter Yba.func4, Yba.ntmps4
  go_wp2_with (at_make; refine wpList_make_rows rfl _ _ 32 rfl 48 _ 3 40 Yba.underlying32 info48 _ _ _ _ n rfl rfl rfl rfl (by omega) (by unfold maxLen; omega) (recCell (upTo F 0)) (row_start F) ?_)
  intro g w1 hg hs hrow hb
  have hB1 : Below w.heap.size w w1 := hb.mono (by have := hg.out; omega)
  have hgw : w.heap.size ≤ g := by have := hg.out; omega
  clear hb hs
  go_wp2_with fail
  go_loopw [12] (fun i wr => ∃ k : Nat, k ≤ n ∧ i = .int .i64 k ∧ RowF wr g 48 (n * 3) (recCell (upTo F k)) ∧ Below w.heap.size w wr) (fun i _ => n - (intOf i).toNat)
  case atStart => exact ⟨0, Nat.zero_le _, rfl, hrow, hB1⟩
  case round =>
    clear hrow hB1
    obtain ⟨k, hk, rfl, hR, hB⟩ := hrel
    by_cases hlt : k < n
    · obtain ⟨b, off, he, hbw, h0, h1, h2⟩ := hA.out.at hB hlt
      obtain rfl : x = ⟨b, off, none⟩ := by simpa using he
      clear he
      have c0 := hR.cell (j := k * 3) (by omega)
      have c1 := hR.cell (j := k * 3 + 1) (by omega)
      have c2 := hR.cell (j := k * 3 + 2) (by omega)
      have f0 := hR.frozen (k * 3)
      have f1 := hR.frozen (k * 3 + 1)
      have f2 := hR.frozen (k * 3 + 2)
      have i0 : (0 : Int) ≤ (k : Int) := by omega
      have i1 : (k : Int) < (n : Int) := by omega
      go_wp2
      go_region
      go_wp2
      go_roundw
      case rel => exact ⟨k + 1, by omega, by go_num, (row_step hR rfl rfl rfl).drew, (((hB.setCell hgw _).setCell hgw _).setCell hgw _).drew⟩
      case measure => simp [intOf]; omega
    · have hk' : k = n := by omega
      subst hk'
      go_wp2
      go_ret
      exact ⟨g, rfl, hg.out, upTo_all hR, hB⟩

/-- 'zzs6023arecs': nil for nil; else a new row with the same records. -/
theorem recs_any (a : Option Addr) (n c : Nat) (F : Nat → Rec) (w : World) (hn : n * 40 ≤ 140737488351232) (h0 : a = none → n = 0 ∧ c = 0) (hA : SkipA w a n F) :
    Calls Yba.prog 4 #[.slice a n c] w fun e w' => ∃ qa d, e = .returned (.slice qa n d) ∧ OwnRec w' (.slice qa n d) a.isNone n F ∧ Below w.heap.size w w' := by
  cases a with
  | none =>
    obtain ⟨rfl, rfl⟩ := h0 rfl
    refine (recs_nil w).mono ?_
    rintro e w' ⟨rfl, rfl⟩
    exact ⟨none, 0, rfl, ⟨rfl, rfl⟩, Below.refl _ _⟩
  | some x =>
    refine (recs_some x n c F w hn hA).mono ?_
    rintro e w' ⟨g, rfl, _, hr, hb⟩
    exact ⟨_, _, rfl, ⟨g, n, rfl, Nat.le_refl _, hr.toP⟩, hb⟩

theorem copy_nil (w : World) : Calls Yba.prog 5 #[.slice none 0 0] w fun e w' => e = .returned (.slice none 0 0) ∧ w' = w := by
  have hnil := fun w => Lib.run_eql_slice_nil (P := Yba.prog) w 32 48 none 0 0 0 0 Yba.underlying32
  go_enter Yba.func5, Yba.ntmps5
  go_wp2
  go_ret
  exact ⟨rfl, rfl⟩

set_option maxHeartbeats 1000000 in
theorem copy_some (b n c : Nat) (F : Nat → Rec) (w : World) (hn : n * 40 ≤ 140737488351232) (hP : RowP w b 48 (n * 3) (recCell F)) :
    Calls Yba.prog 5 #[.slice (some ⟨b, 0, none⟩) n c] w fun e w' => ∃ g, e = .returned (.slice (some ⟨g, 0, none⟩) n n) ∧ RowF w' g 48 (n * 3) (recCell F) ∧ Below w.heap.size w w' := by
  have hnil := fun w => Lib.run_eql_slice_nil (P := Yba.prog) w 32 48 (some ⟨b, 0, none⟩) n c 0 0 Yba.underlying32
  have hbl := hP.lt
  go_enter Yba.func5, Yba.ntmps5
  go_wp2_with (at_make; refine wpList_make_rows rfl _ _ 32 rfl 48 _ 3 40 Yba.underlying32 info48 _ _ _ _ n rfl rfl rfl rfl (by omega) (by unfold maxLen; omega) (recCell (upTo F 0)) (row_start F) ?_)
  intro g w1 hg hs hrow hb
  have hB1 : Below w.heap.size w w1 := hb.mono (by have := hg.out; omega)
  have hgw : w.heap.size ≤ g := by have := hg.out; omega
  clear hb hs
  go_wp2_with fail
  go_loopw [12] (fun i wr => ∃ k : Nat, k ≤ n ∧ i = .int .i64 k ∧ RowF wr g 48 (n * 3) (recCell (upTo F k)) ∧ Below w.heap.size w wr) (fun i _ => n - (intOf i).toNat)
  case atStart => exact ⟨0, Nat.zero_le _, rfl, hrow, hB1⟩
  case round =>
    clear hrow hB1
    obtain ⟨k, hk, rfl, hR, hB⟩ := hrel
    by_cases hlt : k < n
    · have hPr := hP.of_block (hB.block b hbl)
      have h0 := hPr.cell (j := k * 3) (by omega)
      have h1 := hPr.cell (j := k * 3 + 1) (by omega)
      have h2 := hPr.cell (j := k * 3 + 2) (by omega)
      rw [recCell_0] at h0
      rw [recCell_1] at h1
      rw [recCell_2] at h2
      have c0 := hR.cell (j := k * 3) (by omega)
      have c1 := hR.cell (j := k * 3 + 1) (by omega)
      have c2 := hR.cell (j := k * 3 + 2) (by omega)
      have f0 := hR.frozen (k * 3)
      have f1 := hR.frozen (k * 3 + 1)
      have f2 := hR.frozen (k * 3 + 2)
      go_wp2
      go_roundw
      case rel => exact ⟨k + 1, by omega, by go_num, row_step hR rfl rfl rfl, ((hB.setCell hgw _).setCell hgw _).setCell hgw _⟩
      case measure => simp [intOf]; omega
    · have hk' : k = n := by omega
      subst hk'
      go_wp2
      go_ret
      exact ⟨g, rfl, upTo_all hR, hB⟩

/-- 'zzs6023acopy' of a slice of the call's own. -/
theorem copy_any (v : Value) (nil : Bool) (n : Nat) (F : Nat → Rec) (w : World) (hn : n * 40 ≤ 140737488351232) (hv : OwnRec w v nil n F) :
    Calls Yba.prog 5 #[v] w fun e w' => ∃ qa d, e = .returned (.slice qa n d) ∧ OwnRec w' (.slice qa n d) nil n F ∧ Below w.heap.size w w' := by
  cases nil with
  | true =>
    obtain ⟨rfl, rfl⟩ := hv
    refine (copy_nil w).mono ?_
    rintro e w' ⟨rfl, rfl⟩
    exact ⟨none, 0, rfl, ⟨rfl, rfl⟩, Below.refl _ _⟩
  | false =>
    obtain ⟨g, c, rfl, _, hr⟩ := hv
    refine (copy_some g n c F w hn hr).mono ?_
    rintro e w' ⟨g', rfl, hr', hb⟩
    exact ⟨_, _, rfl, ⟨g', n, rfl, Nat.le_refl _, hr'.toP⟩, hb⟩

theorem eq_nil (w : World) : Calls Yba.prog 7 #[.slice none 0 0, .slice none 0 0] w fun e w' => e = .returned (.bool true) ∧ ∃ q, w' = w.drewN q := by
  have hnil := fun w => Lib.run_eql_slice_nil (P := Yba.prog) w 32 48 none 0 0 0 0 Yba.underlying32
  go_enter Yba.func7, Yba.ntmps7
  go_wp2
  refine wp_loop_rounds 1 ?_
  rw [rounds_succ]
  go_wp2
  go_ret
  exact ⟨rfl, 0, rfl⟩

set_option maxHeartbeats 1000000 in
theorem eq_some (a b n c d : Nat) (F : Nat → Rec) (w : World) (hn : n * 40 ≤ 140737488351232) (hP : RowP w a 48 (n * 3) (recCell F)) (hQ : RowP w b 48 (n * 3) (recCell F)) :
    Calls Yba.prog 7 #[.slice (some ⟨a, 0, none⟩) n c, .slice (some ⟨b, 0, none⟩) n d] w fun e w' => e = .returned (.bool true) ∧ ∃ q, w' = w.drewN q := by
  have hnil := fun w => Lib.run_eql_slice_nil (P := Yba.prog) w 32 48 (some ⟨a, 0, none⟩) n c 0 0 Yba.underlying32
  have hnil2 := fun w => Lib.run_eql_slice_nil (P := Yba.prog) w 32 48 (some ⟨b, 0, none⟩) n d 0 0 Yba.underlying32
  go_enter Yba.func7, Yba.ntmps7
  go_wp2_with fail
  go_loopw [20] (fun i wr => ∃ k : Nat, k ≤ n ∧ i = .int .i64 k ∧ ∃ q, wr = w.drewN q) (fun i _ => n - (intOf i).toNat)
  case atStart => exact ⟨0, Nat.zero_le _, rfl, 0, rfl⟩
  case round =>
    obtain ⟨k, hk, rfl, q, rfl⟩ := hrel
    by_cases hlt : k < n
    · have h0 := hP.cell (j := k * 3) (by omega)
      have h1 := hP.cell (j := k * 3 + 1) (by omega)
      have h2 := hP.cell (j := k * 3 + 2) (by omega)
      have c0 := hQ.cell (j := k * 3) (by omega)
      have c1 := hQ.cell (j := k * 3 + 1) (by omega)
      have c2 := hQ.cell (j := k * 3 + 2) (by omega)
      rw [recCell_0] at h0 c0
      rw [recCell_1] at h1 c1
      rw [recCell_2] at h2 c2
      have i0 : (0 : Int) ≤ (k : Int) := by omega
      have i1 : (k : Int) < (n : Int) := by omega
      go_wp2
      go_quiet (fail)
      go_wp2
      go_roundw
      case rel => exact ⟨k + 1, by omega, by go_num, _, rfl⟩
      case measure => simp [intOf]; omega
    · go_wp2
      go_ret
      exact ⟨rfl, q, rfl⟩

/-- 'zzs6023aeq' of two slices that hold the same records. -/
theorem eq_any (v v' : Value) (nil : Bool) (n : Nat) (F : Nat → Rec) (w : World) (hn : n * 40 ≤ 140737488351232) (hv : OwnRec w v nil n F) (hv' : OwnRec w v' nil n F) :
    Calls Yba.prog 7 #[v, v'] w fun e w' => e = .returned (.bool true) ∧ ∃ q, w' = w.drewN q := by
  cases nil with
  | true =>
    obtain ⟨rfl, rfl⟩ := hv
    obtain ⟨rfl, _⟩ := hv'
    exact eq_nil w
  | false =>
    obtain ⟨g, c, rfl, _, hr⟩ := hv
    obtain ⟨g', c', rfl, _, hr'⟩ := hv'
    exact eq_some g g' n c c' F w hn hr hr'

theorem clone_nil (w : World) : Calls Yba.prog 8 #[.slice none 0 0] w fun e w' => e = .returned (.slice none 0 0) ∧ w' = w := by
  have hnil := fun w => Lib.run_eql_slice_nil (P := Yba.prog) w 32 48 none 0 0 0 0 Yba.underlying32
  go_enter Yba.func8, Yba.ntmps8
  go_wp2
  go_ret
  exact ⟨rfl, rfl⟩

/-- The cells of n records as a list. -/
def recList (F : Nat → Rec) (n : Nat) : List Value := (List.range (n * 3)).map (recCell F)

theorem recList_at {F : Nat → Rec} {n j : Nat} {u : Value} (h : (recList F n)[j]? = some u) : j < n * 3 ∧ u = recCell F j := by
  unfold recList at h
  have hj : j < n * 3 := by simpa using (List.getElem?_eq_some_iff.1 h).1
  simp [hj] at h
  exact ⟨hj, h.symm⟩

theorem recList_one (F : Nat → Rec) (n : Nat) : ∀ u ∈ recList F n, u.oneCell' = true := by
  intro u hu
  unfold recList at hu
  obtain ⟨j, _, rfl⟩ := List.mem_map.1 hu
  unfold recCell
  split
  · rfl
  · split <;> rfl

theorem recList_row {F : Nat → Rec} {n : Nat} {w : World} {base : Nat} {v : Value} (h : w.ownsRow base 48 3 v n (recList F n)) (hv : v ≠ .slice none 0 0) :
    ∃ g d, v = .slice (some ⟨g, 0, none⟩) n d ∧ n ≤ d ∧ base ≤ g ∧ RowP w g 48 (n * 3) (recCell F) := by
  rcases h.2 with ⟨e, _⟩ | ⟨g, cap, cur, e, hb, hg, hc, hm, hs, ht⟩
  · exact absurd e hv
  · refine ⟨g, cap, e, hc, hb, cur, hg, fun j hj => ?_⟩
    have h1 : (cur.toList.take (n * 3))[j]? = (recList F n)[j]? := by rw [ht]
    rw [List.getElem?_take, if_pos hj, Array.getElem?_toList] at h1
    rw [h1]
    simp [recList, hj]

theorem clone_some (b n c : Nat) (F : Nat → Rec) (w : World) (hn : n * 40 ≤ 140737488351232) (hP : RowP w b 48 (n * 3) (recCell F)) :
    Calls Yba.prog 8 #[.slice (some ⟨b, 0, none⟩) n c] w fun e w' => ∃ g d, e = .returned (.slice (some ⟨g, 0, none⟩) n d) ∧ n ≤ d ∧ w.heap.size ≤ g ∧ RowP w' g 48 (n * 3) (recCell F) ∧ Below w.heap.size w w' := by
  have hnil := fun w => Lib.run_eql_slice_nil (P := Yba.prog) w 32 48 (some ⟨b, 0, none⟩) n c 0 0 Yba.underlying32
  obtain ⟨i0, hi, hz0, hz1, hz2⟩ := info_parts info48
  have hlt := hP.lt
  have ho : (w.alloc (.cells #[] 48)).ownsRow w.heap.size 48 3 (.slice (some ⟨w.heap.size, 0, none⟩) 0 0) 0 [] := World.ownsRow_lit w #[] 0 (Nat.le_refl _) (by unfold maxLen; omega) rfl
  have hP1 : RowP (w.alloc (.cells #[] 48)) b 48 (n * 3) (recCell F) := hP.of_block (Below.heap_alloc _ _ _ hlt)
  go_enter Yba.func8, Yba.ntmps8
  go_wp2_with (at_builtin; refine wpList_append_own _ rfl _ _ 32 rfl w.heap.size 48 i0 _ 3 40 Yba.underlying32 hi hz0 hz1 hz2 rfl (by decide) _ 0 [] rfl ho ⟨b, 0, none⟩ n c (recList F n) rfl (by simp [recList]) ?_ (recList_one F n) (by unfold maxLen; omega) (by omega) (by simp) ?_)
  · intro j u hj
    obtain ⟨hj3, rfl⟩ := recList_at hj
    rw [Addr.add_lit, Nat.zero_add]
    exact hP1.cell hj3
  intro v' w1 hown hgrow hnl
  obtain ⟨g, d, hv, hd, hg, hr⟩ := recList_row hown hnl
  rw [hv]
  go_wp2
  go_ret
  exact ⟨g, d, rfl, hd, hg, hr, ((Below.refl _ _).alloc (Nat.le_refl _) _).grown hgrow (by simp) (fun k hk => by simp [Value.ownBlock] at hk; omega)⟩

/-- slices.Clone of a slice of the call's own: what comes back lies in new memory. -/
theorem clone_any (v : Value) (nil : Bool) (n : Nat) (F : Nat → Rec) (w : World) (hn : n * 40 ≤ 140737488351232) (hv : OwnRec w v nil n F) :
    Calls Yba.prog 8 #[v] w fun e w' => ∃ qa d, e = .returned (.slice qa n d) ∧ OwnRec w' (.slice qa n d) nil n F ∧ (∀ g, qa = some g → w.heap.size ≤ g.block) ∧ Below w.heap.size w w' := by
  cases nil with
  | true =>
    obtain ⟨rfl, rfl⟩ := hv
    refine (clone_nil w).mono ?_
    rintro e w' ⟨rfl, rfl⟩
    exact ⟨none, 0, rfl, ⟨rfl, rfl⟩, (fun k hk => by cases hk), Below.refl _ _⟩
  | false =>
    obtain ⟨g, c, rfl, _, hr⟩ := hv
    refine (clone_some g n c F w hn hr).mono ?_
    rintro e w' ⟨g', d, rfl, hd, hg, hr', hb⟩
    exact ⟨_, _, rfl, ⟨g', d, rfl, hd, hr'⟩, (fun k hk => by cases hk; exact hg), hb⟩

def MapP (w : World) (mv : Option Nat) (look : Int → Option (Option Addr)) (n : Nat) : Prop :=
  match mv with
  | none => (∀ k, look k = none) ∧ n = 0
  | some r => MapF w r (Value.int .i64) (fun k => (look k).map Value.pointer) n

theorem isKey_int (k : Int) : MapKept.IsKey (.int .i64) (.int .i64 k) := rfl
theorem int_inj (a b : Int) (h : Value.int .i64 a = Value.int .i64 b) : a = b := by simpa using h
theorem zero31 (w : World) : (zeroValue 31).run Yba.prog w = .ok (.pointer none) w := by kernel_rfl

theorem getD_ptr (o : Option (Option Addr)) : (o.map Value.pointer).getD (Value.pointer none) = .pointer (o.getD none) := by cases o <;> rfl

theorem MapP.run_lookup {w : World} {mv : Option Nat} {look : Int → Option (Option Addr)} {n : Nat} (h : MapP w mv look n) (k : Int) :
    (Instr.lookup 28 (.map mv) (.int .i64 k) false).run Yba.prog w = .ok (.pointer ((look k).getD none)) w := by
  rw [← getD_ptr]
  cases mv with
  | none =>
    rw [h.1 k]
    exact run_lookup_nil Yba.underlying28 Yba.underlying3 (isKey_int k) (zero31 w) false
  | some r => exact MapF.run_lookup h Yba.underlying28 Yba.underlying3 isKey_int (zero31 w) k false

theorem MapP.of_blocks {w w' : World} {mv : Option Nat} {look : Int → Option (Option Addr)} {n : Nat} (h : MapP w mv look n) (hb : ∀ r, r < w.heap.size → w'.heap[r]? = w.heap[r]?) : MapP w' mv look n := by
  cases mv with
  | none => exact h
  | some r => exact MapF.of_block h (hb r (MapF.lt h))

theorem MapP.run_len {w : World} {mv : Option Nat} {look : Int → Option (Option Addr)} {n : Nat} (h : MapP w mv look n) (t : TypeId) : (Builtin.len_ #[28] t #[.map mv]).run Yba.prog w = .ok (goInt n) w := by
  cases mv with
  | none =>
    obtain ⟨_, rfl⟩ := h
    simp [Builtin.len_, run_underlying Yba.underlying28]
  | some r => exact MapF.run_len h Yba.underlying28 t

def tfCells (c : Int) (v : Value) : List Value := [.int .i64 c, .map none, v, .bool false, .slice none 0 0]

/-- A pointer to a record of failures whose skip list is told. -/
def HasTF (w : World) (p : Option Addr) (nil : Bool) (n : Nat) (F : Nat → Rec) : Prop :=
  ∃ bt v c, p = some ⟨bt, 0, none⟩ ∧ RowF w bt 37 5 (fun j => (tfCells c v).getD j undef) ∧ OwnRec w v nil n F ∧ n * 40 ≤ 140737488351232

theorem RowF.of_blocks {w w' : World} {g : Nat} {e : TypeId} {n : Nat} {f : Nat → Value} (h : RowF w g e n f) (hb : ∀ r, r < w.heap.size → w'.heap[r]? = w.heap[r]?) : RowF w' g e n f := h.of_block (hb g h.lt)

theorem HasTF.of_blocks {w w' : World} {p : Option Addr} {nil : Bool} {n : Nat} {F : Nat → Rec} (h : HasTF w p nil n F) (hb : ∀ r, r < w.heap.size → w'.heap[r]? = w.heap[r]?) : HasTF w' p nil n F := by
  obtain ⟨bt, v, c, e, hr, ho, hn⟩ := h
  exact ⟨bt, v, c, e, RowF.of_blocks hr hb, ho.of_blocks hb, hn⟩

/-- A skip list 's' (nil, or records in the call's own memory) that holds what the failures at 'p' hold. -/
def Rel (w : World) (p : Option Addr) (s : Value) : Prop := (p = none ∧ s = .slice none 0 0) ∨ ∃ nil n F, HasTF w p nil n F ∧ OwnRec w s nil n F

theorem Rel.of_blocks {w w' : World} {p : Option Addr} {s : Value} (h : Rel w p s) (hb : ∀ r, r < w.heap.size → w'.heap[r]? = w.heap[r]?) : Rel w' p s := by
  rcases h with h | ⟨nil, n, F, h1, h2⟩
  · exact .inl h
  · exact .inr ⟨nil, n, F, h1.of_blocks hb, h2.of_blocks hb⟩

def PtrOk (w : World) (p : Option Addr) : Prop := p = none ∨ ∃ nil n F, HasTF w p nil n F

theorem PtrOk.of_blocks {w w' : World} {p : Option Addr} (h : PtrOk w p) (hb : ∀ r, r < w.heap.size → w'.heap[r]? = w.heap[r]?) : PtrOk w' p := by
  rcases h with h | ⟨nil, n, F, h1⟩
  · exact .inl h
  · exact .inr ⟨nil, n, F, h1.of_blocks hb⟩

/-- Records told twice over the same cells. -/
theorem recCell_congr {F G : Nat → Rec} {n : Nat} (h : ∀ j, j < n * 3 → recCell F j = recCell G j) : ∀ k, k < n → F k = G k := by
  intro k hk
  have h0 := h (k * 3) (by omega)
  have h1 := h (k * 3 + 1) (by omega)
  have h2 := h (k * 3 + 2) (by omega)
  rw [recCell_0, recCell_0] at h0
  rw [recCell_1, recCell_1] at h1
  rw [recCell_2, recCell_2] at h2
  cases hF : F k with
  | mk a b c =>
    cases hG : G k with
    | mk a' b' c' =>
      rw [hF, hG] at h0 h1 h2
      simp only [Value.string.injEq, Value.int.injEq, true_and] at h0 h1 h2
      rw [h0, h1, h2]

theorem OwnRec.congr {w : World} {v : Value} {nil : Bool} {n : Nat} {F G : Nat → Rec} (h : OwnRec w v nil n F) (hfg : ∀ k, k < n → F k = G k) : OwnRec w v nil n G := by
  unfold OwnRec at *
  cases nil with
  | true => exact h
  | false =>
    obtain ⟨g, c, e, hc, cs, hg, hf⟩ := h
    refine ⟨g, c, e, hc, cs, hg, fun j hj => ?_⟩
    rw [hf j hj]
    unfold recCell
    rw [hfg (j / 3) (by omega)]

/-- The same value told twice. -/
theorem OwnRec.uniq {w : World} {v : Value} {nil nil' : Bool} {n n' : Nat} {F G : Nat → Rec} (h : OwnRec w v nil n F) (h' : OwnRec w v nil' n' G) : nil = nil' ∧ n = n' ∧ ∀ k, k < n → F k = G k := by
  unfold OwnRec at h h'
  cases nil with
  | true =>
    obtain ⟨rfl, rfl⟩ := h
    cases nil' with
    | true => exact ⟨rfl, h'.2.symm, fun k hk => absurd hk (Nat.not_lt_zero _)⟩
    | false =>
      obtain ⟨g, c, e, _⟩ := h'
      cases e
  | false =>
    obtain ⟨g, c, rfl, _, cs, hg, hf⟩ := h
    cases nil' with
    | true =>
      obtain ⟨e, _⟩ := h'
      cases e
    | false =>
      obtain ⟨g', c', e, _, cs', hg', hf'⟩ := h'
      simp only [Value.slice.injEq, Option.some.injEq, Addr.mk.injEq, and_true] at e
      obtain ⟨rfl, rfl, rfl⟩ := e
      rw [hg] at hg'
      obtain rfl : cs = cs' := by simpa using hg'
      refine ⟨rfl, rfl, recCell_congr (fun j hj => ?_)⟩
      have := hf j hj
      rw [hf' j hj] at this
      simpa using this.symm

theorem RowF.uniq {w : World} {g n : Nat} {e : TypeId} {f f' : Nat → Value} (h : RowF w g e n f) (h' : RowF w g e n f') {j : Nat} (hj : j < n) : f j = f' j := by
  have a := h.cell hj
  rw [h'.cell hj] at a
  simpa using a.symm

/-- Two skip lists that hold what the same failures hold are told alike. -/
theorem Rel.same {w : World} {p : Option Addr} {s s' : Value} (h : Rel w p s) (h' : Rel w p s') : ∃ nil n F, OwnRec w s nil n F ∧ OwnRec w s' nil n F ∧ n * 40 ≤ 140737488351232 := by
  rcases h with ⟨rfl, rfl⟩ | ⟨nil, n, F, ⟨bt, v, c, rfl, hr, ho, hn⟩, hs⟩
  · rcases h' with ⟨_, rfl⟩ | ⟨_, _, _, ⟨_, _, _, e, _⟩, _⟩
    · exact ⟨true, 0, fun _ => recZ, ⟨rfl, rfl⟩, ⟨rfl, rfl⟩, by omega⟩
    · cases e
  · rcases h' with ⟨e, _⟩ | ⟨nil', n', F', ⟨bt', v', c', e, hr', ho', hn'⟩, hs'⟩
    · cases e
    · obtain rfl : bt = bt' := by simpa using e
      obtain rfl : v = v' := RowF.uniq hr hr' (j := 2) (by omega)
      obtain ⟨rfl, rfl, hfg⟩ := ho.uniq ho'
      exact ⟨nil, n, F, hs, hs'.congr (fun k hk => (hfg k hk).symm), hn⟩

theorem OwnRec.but {w w' : World} {qa : Option Addr} {nil : Bool} {n m d : Nat} {F : Nat → Rec} (h : OwnRec w (.slice qa m d) nil n F) {b : Nat} (hb : ∀ r, r ≠ b → w'.heap[r]? = w.heap[r]?) (hq : ∀ g, qa = some g → g.block ≠ b) : OwnRec w' (.slice qa m d) nil n F := by
  unfold OwnRec at *
  cases nil with
  | true => exact h
  | false =>
    obtain ⟨g, c, e, hc, hr⟩ := h
    refine ⟨g, c, e, hc, hr.of_block (hb g ?_)⟩
    simp only [Value.slice.injEq] at e
    exact hq _ e.1

theorem watch_any (bf : Nat) (task : Int) (mv : Option Nat) (look : Int → Option (Option Addr)) (nm : Nat) (w : World) (hF : w.cell? ⟨bf, 3, none⟩ = some (.map mv)) (hm : MapP w mv look nm) (hp : PtrOk w ((look task).getD none)) :
    Calls Yba.prog 6 #[.pointer (some ⟨bf, 0, none⟩), .int .i64 task] w fun e w' => ∃ qa n d, e = .returned (.agg #[.slice qa n d, .pointer none, .pointer none]) ∧ Rel w' ((look task).getD none) (.slice qa n d) ∧ (∀ g, qa = some g → w.heap.size ≤ g.block) ∧ Below w.heap.size w w' := by
  have hlt := World.block_lt_of_cell? w _ hF
  simp only at hlt
  have hne : bf ≠ w.heap.size := by omega
  have hbl : ∀ r, r < w.heap.size → (w.alloc (.cells #[.slice none 0 0, .pointer none, .pointer none] 44)).heap[r]? = w.heap[r]? := fun r hr => Below.heap_alloc _ _ _ hr
  have hl := (hm.of_blocks hbl).run_lookup task
  rcases hp with hp | ⟨nil, n, F, bt, v, c, hp, hr, ho, hn⟩
  · rw [hp] at hl ⊢
    clear hbl
    go_enter Yba.func6, Yba.ntmps6
    go_wp2
    refine bodyPost_ret (v := .agg #[.slice none 0 0, .pointer none, .pointer none]) (by simp [results, Yba.results6, go_sem]) rfl ⟨none, 0, 0, rfl, .inl ⟨rfl, rfl⟩, (fun k hk => by cases hk), (Below.refl _ _).alloc (Nat.le_refl _) _⟩
  · rw [hp] at hl ⊢
    have hr1 := RowF.of_blocks hr hbl
    have ho1 := ho.of_blocks hbl
    have c2 : (w.alloc (.cells #[.slice none 0 0, .pointer none, .pointer none] 44)).cell? ⟨bt, 2, none⟩ = some v := hr1.cell (by omega)
    have HBL := hide hbl
    clear hbl
    go_enter Yba.func6, Yba.ntmps6
    go_wp2_with fail
    refine (clone_any v nil n F _ hn ho1).mono ?_
    rintro e w2 ⟨qa, d, rfl, ho2, hk2, hb2⟩
    have hz : w.heap.size < w2.heap.size := by have := hb2.size; simp at this; omega
    have cA : w2.cell? ⟨w.heap.size, 0, none⟩ = some (.slice none 0 0) := by rw [hb2.cell (by simp)]; simp
    have cB : w2.cell? ⟨w.heap.size, 1, none⟩ = some (.pointer none) := by rw [hb2.cell (by simp)]; simp
    have cC : w2.cell? ⟨w.heap.size, 2, none⟩ = some (.pointer none) := by rw [hb2.cell (by simp)]; simp
    have fA : w2.frozen? ⟨w.heap.size, 0, none⟩ = false := by rw [hb2.frozen (by simp)]; simp
    have fB : w2.frozen? ⟨w.heap.size, 1, none⟩ = false := by rw [hb2.frozen (by simp)]; simp
    have fC : w2.frozen? ⟨w.heap.size, 2, none⟩ = false := by rw [hb2.frozen (by simp)]; simp
    go_wp2
    have hother : ∀ r, r ≠ w.heap.size → (((w2.setCell ⟨w.heap.size, 0, none⟩ (.slice qa n d)).setCell ⟨w.heap.size, 1, none⟩ (.pointer none)).setCell ⟨w.heap.size, 2, none⟩ (.pointer none)).heap[r]? = w2.heap[r]? := fun r hr => by
      rw [Below.heap_setCell _ _ _ _ (by exact hr), Below.heap_setCell _ _ _ _ (by exact hr), Below.heap_setCell _ _ _ _ (by exact hr)]
    have hb3 : Below w.heap.size w (((w2.setCell ⟨w.heap.size, 0, none⟩ (.slice qa n d)).setCell ⟨w.heap.size, 1, none⟩ (.pointer none)).setCell ⟨w.heap.size, 2, none⟩ (.pointer none)) :=
      (((((Below.refl _ _).alloc (Nat.le_refl _) _).trans (hb2.mono (by simp))).setCell (Nat.le_refl _) _).setCell (Nat.le_refl _) _).setCell (Nat.le_refl _) _
    have hk3 : ∀ g, qa = some g → w.heap.size + 1 ≤ g.block := fun g hg => by have := hk2 g hg; simpa using this
    refine bodyPost_ret (v := .agg #[.slice qa n d, .pointer none, .pointer none]) (by simp [results, Yba.results6, go_sem, cA, cB, cC]) rfl ⟨qa, n, d, rfl, ?_, ?_, hb3⟩
    · exact .inr ⟨nil, n, F, ⟨bt, v, c, rfl, RowF.of_blocks hr (fun r hr => hb3.block r hr), ho.of_blocks (fun r hr => hb3.block r hr), hn⟩, ho2.but hother (fun g hg => by have := hk3 g hg; omega)⟩
    · intro g hg
      have := hk3 g hg
      omega

structure Ent where
  task : Int
  absent : Bool
  sa : Option Addr
  sl : Nat
  sc : Nat
  recs : Nat → Rec

/-- What is known of the argument 'entries'. -/
def ArgE (w : World) (a : Option Addr) (n : Nat) (en : Nat → Ent) : Prop :=
  ∀ j, j < n → ∃ b off, a = some ⟨b, off, none⟩ ∧ b < w.heap.size ∧ w.cell? ⟨b, off + j * 3, none⟩ = some (.int .i64 (en j).task) ∧ w.cell? ⟨b, off + j * 3 + 1, none⟩ = some (.bool (en j).absent) ∧ w.cell? ⟨b, off + j * 3 + 2, none⟩ = some (.slice (en j).sa (en j).sl (en j).sc)

theorem ArgE.at {w wr : World} {a : Option Addr} {n : Nat} {en : Nat → Ent} (h : ArgE w a n en) (hb : Below w.heap.size w wr) {j : Nat} (hj : j < n) :
    ∃ b off, a = some ⟨b, off, none⟩ ∧ b < w.heap.size ∧ wr.cell? ⟨b, off + j * 3, none⟩ = some (.int .i64 (en j).task) ∧ wr.cell? ⟨b, off + j * 3 + 1, none⟩ = some (.bool (en j).absent) ∧ wr.cell? ⟨b, off + j * 3 + 2, none⟩ = some (.slice (en j).sa (en j).sl (en j).sc) := by
  obtain ⟨b, off, ha, hl, h0, h1, h2⟩ := h j hj
  exact ⟨b, off, ha, hl, by rw [hb.cell (by exact hl)]; exact h0, by rw [hb.cell (by exact hl)]; exact h1, by rw [hb.cell (by exact hl)]; exact h2⟩

/-- What is known of the skip list of one entry. -/
def SkipOk (w : World) (e : Ent) : Prop := SkipA w e.sa e.sl e.recs ∧ (e.sa = none → e.sl = 0 ∧ e.sc = 0) ∧ e.sl * 40 ≤ 140737488351232

theorem SkipA.below {w wr : World} {a : Option Addr} {n : Nat} {F : Nat → Rec} (h : SkipA w a n F) (hb : Below w.heap.size w wr) : SkipA wr a n F := by
  intro j hj
  obtain ⟨b, off, e, hl, h3⟩ := h.at hb hj
  exact ⟨b, off, e, Nat.lt_of_lt_of_le hl hb.size, h3⟩

def TFOk (w : World) (e : Ent) (p : Option Addr) : Prop := if e.absent then p = none else HasTF w p e.sa.isNone e.sl e.recs

theorem TFOk.of_blocks {w w' : World} {e : Ent} {p : Option Addr} (h : TFOk w e p) (hb : ∀ r, r < w.heap.size → w'.heap[r]? = w.heap[r]?) : TFOk w' e p := by
  unfold TFOk at *
  split
  · rename_i ha; rw [if_pos ha] at h; exact h
  · rename_i ha; rw [if_neg ha] at h; exact h.of_blocks hb

theorem TFOk.ptr {w : World} {e : Ent} {p : Option Addr} (h : TFOk w e p) : PtrOk w p := by
  unfold TFOk at h
  split at h
  · exact .inl h
  · exact .inr ⟨_, _, _, h⟩

def lookTo (tk : Nat → Int) (pt : Nat → Option Addr) : Nat → Int → Option (Option Addr)
  | 0, _ => none
  | n + 1, x => if x = tk n then some (pt n) else lookTo tk pt n x

theorem lookTo_skip (tk : Nat → Int) (pt : Nat → Option Addr) (t : Int) (i : Nat) : ∀ n, i ≤ n → (∀ j, i ≤ j → j < n → tk j ≠ t) → lookTo tk pt n t = lookTo tk pt i t
  | 0, h, _ => by have : i = 0 := by omega
                  subst this; rfl
  | n + 1, h, hno => by
    by_cases hi : i = n + 1
    · subst hi; rfl
    · rw [lookTo, if_neg (fun e => hno n (by omega) (by omega) e.symm)]
      exact lookTo_skip tk pt t i n (by omega) (fun j h1 h2 => hno j h1 (by omega))

theorem lookTo_congr (tk : Nat → Int) (pt pt' : Nat → Option Addr) : ∀ n, (∀ j, j < n → pt j = pt' j) → lookTo tk pt n = lookTo tk pt' n
  | 0, _ => rfl
  | n + 1, h => by
    funext x
    rw [lookTo, lookTo, h n (by omega), lookTo_congr tk pt pt' n (fun j hj => h j (by omega))]

theorem lookTo_some (tk : Nat → Int) (pt : Nat → Option Addr) (t : Int) : ∀ n p, lookTo tk pt n t = some p → ∃ j, j < n ∧ p = pt j
  | 0, p, h => by cases h
  | n + 1, p, h => by
    rw [lookTo] at h
    split at h
    · exact ⟨n, by omega, by simpa using h.symm⟩
    · obtain ⟨j, hj, e⟩ := lookTo_some tk pt t n p h
      exact ⟨j, by omega, e⟩

def lookIf (nm : Bool) (tk : Nat → Int) (pt : Nat → Option Addr) (n : Nat) : Int → Option (Option Addr) := if nm then fun _ => none else lookTo tk pt n

def fCells (mv : Option Nat) : List Value := [.string ⟨#[109, 97, 112]⟩, .int .i64 4, .bool false, .map mv]

theorem map_step {tk : Nat → Int} {pt pt' : Nat → Option Addr} {m n : Nat} {w : World} {r : Nat} {q : Option Addr} (h : MapF w r (Value.int .i64) (fun x => if x = tk m then some (.pointer q) else (lookTo tk pt m x).map Value.pointer) n)
    (hq : pt' m = q) (hpt : ∀ j, j < m → pt j = pt' j) : MapF w r (Value.int .i64) (fun x => (lookTo tk pt' (m + 1) x).map Value.pointer) n := by
  have e : (fun x => (lookTo tk pt' (m + 1) x).map Value.pointer) = fun x => if x = tk m then some (.pointer q) else (lookTo tk pt m x).map Value.pointer := by
    funext x
    rw [lookTo, lookTo_congr tk pt pt' m hpt, hq]
    split <;> rfl
  rw [e]
  exact h

/-- A map's block turned, all else kept: rows stay. -/
def Turn (w w' : World) (r : Nat) : Prop := (∃ es cl, w.heap[r]? = some (.map es cl)) ∧ ∀ k, k < w.heap.size → k ≠ r → w'.heap[k]? = w.heap[k]?

theorem Turn.rowF {w w' : World} {r g : Nat} {e : TypeId} {n : Nat} {f : Nat → Value} (t : Turn w w' r) (h : RowF w g e n f) : RowF w' g e n f := by
  obtain ⟨⟨es, cl, hm⟩, hb⟩ := t
  refine h.of_block (hb g h.lt ?_)
  rintro rfl
  obtain ⟨cs, hc, _⟩ := h
  rw [hm] at hc
  cases hc

theorem Turn.rowP {w w' : World} {r g : Nat} {e : TypeId} {n : Nat} {f : Nat → Value} (t : Turn w w' r) (h : RowP w g e n f) : RowP w' g e n f := by
  obtain ⟨⟨es, cl, hm⟩, hb⟩ := t
  refine h.of_block (hb g h.lt ?_)
  rintro rfl
  obtain ⟨cs, hc, _⟩ := h
  rw [hm] at hc
  cases hc

theorem Turn.ownRec {w w' : World} {r : Nat} {v : Value} {nil : Bool} {n : Nat} {F : Nat → Rec} (t : Turn w w' r) (h : OwnRec w v nil n F) : OwnRec w' v nil n F := by
  unfold OwnRec at *
  cases nil with
  | true => exact h
  | false =>
    obtain ⟨g, c, e, hc, hr⟩ := h
    exact ⟨g, c, e, hc, t.rowP hr⟩

theorem Turn.tfOk {w w' : World} {r : Nat} {e : Ent} {p : Option Addr} (t : Turn w w' r) (h : TFOk w e p) : TFOk w' e p := by
  unfold TFOk at *
  split
  · rename_i ha; rw [if_pos ha] at h; exact h
  · rename_i ha; rw [if_neg ha] at h
    obtain ⟨bt, v, c, e, hr, ho, hn⟩ := h
    exact ⟨bt, v, c, e, t.rowF hr, t.ownRec ho, hn⟩

/-- One entry stored: what the round leaves. -/
theorem rel_step {w wx W1 w2 : World} {m q q2 r bf : Nat} {en : Nat → Ent} {tk : Nat → Int} {pt : Nat → Option Addr} {mvr : Option Nat} {p : Option Addr} (htk : tk m = (en m).task)
    (hFr : RowF wx bf 30 4 (fun j => (fCells mvr).getD j undef)) (hM : MapF wx r (Value.int .i64) (fun x => (lookTo tk pt m x).map Value.pointer) q) (hTF : ∀ j, j < m → TFOk wx (en j) (pt j)) (hr : w.heap.size ≤ r)
    (hb1 : ∀ k, k < wx.heap.size → W1.heap[k]? = wx.heap[k]?) (hB1 : Below w.heap.size w W1) (hp : TFOk W1 (en m) p)
    (hM2 : MapF w2 r (Value.int .i64) (fun x => if x = (en m).task then some (.pointer p) else (lookTo tk pt m x).map Value.pointer) q2) (hgr : W1.grownBy w2 (some r)) :
    ∃ pt q, RowF w2 bf 30 4 (fun j => (fCells mvr).getD j undef) ∧ MapF w2 r (Value.int .i64) (fun x => (lookTo tk pt (m + 1) x).map Value.pointer) q ∧ (∀ j, j < m + 1 → TFOk w2 (en j) (pt j)) ∧ Below w.heap.size w w2 := by
  have tn : Turn W1 w2 r := by
    obtain ⟨es, cl, h, _⟩ := hM
    refine ⟨⟨es, cl, by rw [hb1 r (lt_of_block h)]; exact h⟩, fun k hk hne => hgr.block k hk (fun e => hne (by simpa using e))⟩
  refine ⟨fun j => if j = m then p else pt j, q2, tn.rowF (RowF.of_blocks hFr hb1), ?_, fun j hj => ?_, hB1.grown hgr hB1.size (fun k hk => by cases hk; exact hr)⟩
  · refine map_step (pt := pt) (q := p) (by rw [htk]; exact hM2) (if_pos rfl) (fun j hj => ?_)
    simp only [if_neg (show ¬ j = m by omega)]
  · by_cases hjm : j = m
    · subst hjm
      simp only [if_true]
      exact tn.tfOk hp
    · simp only [if_neg hjm]
      exact tn.tfOk ((hTF j (by omega)).of_blocks hb1)

/-- Behind the call of 'zzs6023arecs' in the round: the cells that the statement still reads, and the store into the map. -/
theorem call_step {w wx w2 : World} {m q : Nat} {en : Nat → Ent} {tk : Nat → Int} {pt : Nat → Option Addr} {qa : Option Addr} {d : Nat} (htk : tk m = (en m).task) (hab : (en m).absent = false)
    (hFr : RowF wx w.heap.size 30 4 (fun j => (fCells (some (w.heap.size + 1))).getD j undef)) (hM : MapF wx (w.heap.size + 1) (Value.int .i64) (fun x => (lookTo tk pt m x).map Value.pointer) q) (hTF : ∀ j, j < m → TFOk wx (en j) (pt j)) (hB : Below w.heap.size w wx) (hSb : (en m).sl * 40 ≤ 140737488351232)
    (hO : OwnRec w2 (.slice qa (en m).sl d) (en m).sa.isNone (en m).sl (en m).recs)
    (hbo : Below (wx.alloc (.cells #[.int .i64 (en m).task, .bool false, .slice (en m).sa (en m).sl (en m).sc] 25)).drew.heap.size (wx.alloc (.cells #[.int .i64 (en m).task, .bool false, .slice (en m).sa (en m).sl (en m).sc] 25)).drew w2) :
    w2.cell? ⟨w.heap.size, 3, none⟩ = some (.map (some (w.heap.size + 1))) ∧ w2.cell? ⟨wx.heap.size, 0, none⟩ = some (.int .i64 (en m).task) ∧ w2.cell? ⟨wx.heap.size, 2, none⟩ = some (.slice (en m).sa (en m).sl (en m).sc) ∧
    w.heap.size ≠ w2.heap.size ∧ wx.heap.size ≠ w2.heap.size ∧
    ∃ w3, (Instr.mapUpdate 28 (.map (some (w.heap.size + 1))) (.int .i64 (en m).task) (.pointer (some ⟨w2.heap.size, 0, none⟩))).run Yba.prog (w2.alloc (.cells #[.int .i64 (m : Int), .map none, .slice qa (en m).sl d, .bool false, .slice none 0 0] 37)) = .ok () w3 ∧
      w3.cell? ⟨w.heap.size, 3, none⟩ = some (.map (some (w.heap.size + 1))) ∧ w3.cell? ⟨wx.heap.size, 0, none⟩ = some (.int .i64 (en m).task) ∧ w3.cell? ⟨wx.heap.size, 2, none⟩ = some (.slice (en m).sa (en m).sl (en m).sc) ∧
      ∃ pt q, RowF w3 w.heap.size 30 4 (fun j => (fCells (some (w.heap.size + 1))).getD j undef) ∧ MapF w3 (w.heap.size + 1) (Value.int .i64) (fun x => (lookTo tk pt (m + 1) x).map Value.pointer) q ∧ (∀ j, j < m + 1 → TFOk w3 (en j) (pt j)) ∧ Below w.heap.size w w3 := by
  have hsz := hbo.size
  have hBs := hB.size
  simp at hsz
  have hX : (wx.alloc (.cells #[.int .i64 (en m).task, .bool false, .slice (en m).sa (en m).sl (en m).sc] 25)).drew.heap.size = wx.heap.size + 1 := by simp
  rw [hX] at hbo
  have hb1 : ∀ k, k < wx.heap.size → w2.heap[k]? = wx.heap[k]? := fun k hk => by
    rw [hbo.block k (by omega)]
    exact Below.heap_alloc _ _ _ hk
  have hlt := hFr.lt
  have hB2 : Below w.heap.size w w2 := (hB.alloc hB.size _).drew.trans (hbo.mono (by omega))
  have hx0 : w2.cell? ⟨wx.heap.size, 0, none⟩ = some (.int .i64 (en m).task) := by
    rw [hbo.cell (by simp)]
    show (wx.alloc _).cell? _ = _
    simp
  have hx2 : w2.cell? ⟨wx.heap.size, 2, none⟩ = some (.slice (en m).sa (en m).sl (en m).sc) := by
    rw [hbo.cell (by simp)]
    show (wx.alloc _).cell? _ = _
    simp
  refine ⟨(RowF.of_blocks hFr hb1).cell (by omega), hx0, hx2, by omega, by omega, ?_⟩
  · have hb2 : ∀ k, k < w2.heap.size → (w2.alloc (.cells #[.int .i64 (m : Int), .map none, .slice qa (en m).sl d, .bool false, .slice none 0 0] 37)).heap[k]? = w2.heap[k]? := fun k hk => Below.heap_alloc _ _ _ hk
    have hb3 : ∀ k, k < wx.heap.size → (w2.alloc (.cells #[.int .i64 (m : Int), .map none, .slice qa (en m).sl d, .bool false, .slice none 0 0] 37)).heap[k]? = wx.heap[k]? := fun k hk => by rw [hb2 k (by omega), hb1 k hk]
    obtain ⟨w3, q3, hrun, hM3, hgr, _⟩ := MapF.run_update (P := Yba.prog) (w := w2.alloc (.cells #[.int .i64 (m : Int), .map none, .slice qa (en m).sl d, .bool false, .slice none 0 0] 37)) (MapF.of_block hM (hb3 _ hM.lt)) Yba.underlying28 Yba.underlying3 isKey_int int_inj (en m).task (.pointer (some ⟨w2.heap.size, 0, none⟩))
    have hmr := hM.lt
    have hxb : w3.heap[wx.heap.size]? = w2.heap[wx.heap.size]? := by
      rw [hgr.block _ (by simp; omega) (by simp; omega), hb2 _ (by omega)]
    have R := rel_step (p := some ⟨w2.heap.size, 0, none⟩) htk hFr hM hTF (by omega) hb3 (hB2.alloc hB2.size _) ?_ hM3 hgr
    · refine ⟨w3, hrun, ?_, ?_, ?_, R⟩
      · obtain ⟨_, _, hr, _⟩ := R
        exact hr.cell (by omega)
      · rw [World.cell?_of_block (w := w2) (by exact hxb)]
        exact hx0
      · rw [World.cell?_of_block (w := w2) (by exact hxb)]
        exact hx2
    unfold TFOk
    rw [if_neg (by rw [hab]; decide)]
    exact ⟨w2.heap.size, .slice qa (en m).sl d, m, rfl, rowF_alloc w2 (tfCells m (.slice qa (en m).sl d)) 37, hO.of_blocks hb2, hSb⟩

theorem RowP.ne {w : World} {g h : Nat} {e e' : TypeId} {n n' : Nat} {f f' : Nat → Value} (a : RowP w g e n f) (b : RowF w h e' n' f') (hne : e ≠ e') : g ≠ h := by
  rintro rfl
  obtain ⟨cs, hc, _⟩ := a
  obtain ⟨cs', hc', _⟩ := b
  rw [hc] at hc'
  simp at hc'
  exact hne hc'.2

theorem OwnRec.setCell {w : World} {v : Value} {nil : Bool} {n : Nat} {F : Nat → Rec} (h : OwnRec w v nil n F) {g : Nat} {e : TypeId} {m : Nat} {f : Nat → Value} (hg : RowF w g e m f) (he : 48 ≠ e) (k : Nat) (u : Value) : OwnRec (w.setCell ⟨g, k, none⟩ u) v nil n F := by
  unfold OwnRec at *
  cases nil with
  | true => exact h
  | false =>
    obtain ⟨b, c, e', hc, hr⟩ := h
    exact ⟨b, c, e', hc, hr.of_block (Below.heap_setCell _ _ _ _ (RowP.ne hr hg he))⟩

/-- A store into a row that is none of records nor of failures keeps what is told of skip lists. -/
theorem Rel.setCell {w : World} {p : Option Addr} {s : Value} (h : Rel w p s) {g : Nat} {e : TypeId} {m : Nat} {f : Nat → Value} (hg : RowF w g e m f) (he : 48 ≠ e) (he' : 37 ≠ e) (k : Nat) (u : Value) : Rel (w.setCell ⟨g, k, none⟩ u) p s := by
  rcases h with h | ⟨nil, n, F, ⟨bt, v, c, e', hr, ho, hn⟩, h2⟩
  · exact .inl h
  · exact .inr ⟨nil, n, F, ⟨bt, v, c, e', hr.other (hr.ne hg he') _, ho.setCell hg he k u, hn⟩, h2.setCell hg he k u⟩

/-- 'make([]T, n)' at a one-cell element type. -/
theorem wpList_make_row {P : Program} {w : World} {ops : Array Oper} {rest : List Oper} {o : Oper} {a : Act} {Q : Exit → Act → World → Prop}
    (hg : o.guard = none) (l c : Operand) (t : TypeId) (hop : o.op = Op.makeSlice t l c)
    (e : TypeId) (z : Value) (bytes : Nat) (h1 : P.underlying t = some (.slice e)) (h2 : (P.info? e).map (fun i => (i.zero, i.size, i.bytes)) = some (some z, 1, bytes)) (hz : z.cells = #[z])
    (kl kc : IntKind) (L C : Int) (n : Nat) (hl : a.eval l = .int kl L) (hc : a.eval c = .int kc C) (hL : L = (n : Int)) (hC : C = (n : Int)) (b2 : bytes * n ≤ 281474976710656) (b3 : n ≤ maxLen) (F0 : Nat → Value) (hF : ∀ j, F0 j = z)
    (hK : ∀ g w', Hid (g = w.heap.size) → Hid (w'.heap.size = g + 1) → RowF w' g e n F0 → Below g w w' → wpList P ops Q rest (a.put o.dst (.slice (some ⟨g, 0, none⟩) n n)) w') :
    wpList P ops Q (o :: rest) a w := by
  refine wpList_make_rows hg l c t hop e z 1 bytes h1 h2 kl kc L C n hl hc hL hC b2 b3 F0 (fun j => ?_) (fun g w' a1 a2 a3 a4 => hK g w' a1 a2 ?_ a4)
  · rw [hF, hz]
    simp [Nat.mod_one]
  · rw [Nat.mul_one] at a3
    exact a3

theorem info31 : (Yba.prog.info? 31).map (fun i => (i.zero, i.size, i.bytes)) = some (some (.pointer none), 1, 8) := by kernel_rfl
theorem info32 : (Yba.prog.info? 32).map (fun i => (i.zero, i.size, i.bytes)) = some (some (.slice none 0 0), 1, 24) := by kernel_rfl

/-- Every pointer that the map gives leads to failures that are told. -/
theorem look_ptr {w : World} {nm : Bool} {n : Nat} {en : Nat → Ent} {tk : Nat → Int} {pt : Nat → Option Addr} (h : nm = false → ∀ j, j < n → TFOk w (en j) (pt j)) (x : Int) : PtrOk w ((lookIf nm tk pt n x).getD none) := by
  cases nm with
  | true => exact .inl rfl
  | false =>
    show PtrOk w ((lookTo tk pt n x).getD none)
    cases hl : lookTo tk pt n x with
    | none => exact .inl rfl
    | some p =>
      obtain ⟨j, hj, rfl⟩ := lookTo_some tk pt x n p hl
      exact (h rfl j hj).ptr

theorem equalIn_ptr_self (d : Nat) (p : Option Addr) (w : World) : (Op.equalIn (d + 1) 31 (.pointer p) (.pointer p)).run Yba.prog w = .ok true w := by
  cases p with
  | none => simp [Op.equalIn, run_underlying Yba.underlying31]
  | some a => simp [Op.equalIn, run_underlying Yba.underlying31, sameAddr, Result.andThen]

theorem equal_ptr_self (p : Option Addr) (w : World) : (Op.equal 31 (.pointer p) (.pointer p)).run Yba.prog w = .ok true w := equalIn_ptr_self 9999 p w

theorem neq_ptr_self (p : Option Addr) (w : World) : (binOp .neq 31 (.pointer p) (.pointer p)).run Yba.prog w = .ok (.bool false) w := by
  simp only [binOp]
  simp [equal_ptr_self p w]

theorem ptr_step {w : World} {gp n m : Nat} {P : Nat → Option Addr} {p : Option Addr} (h : RowF w gp 31 n (fun j => if j < m then .pointer (P j) else .pointer none)) (hp : p = P m) :
    RowF (w.setCell ⟨gp, m, none⟩ (.pointer p)) gp 31 n (fun j => if j < m + 1 then .pointer (P j) else .pointer none) :=
  h.store m _ (fun _ => by simp [hp]) (fun j _ hj => by
    by_cases hlt : j < m
    · rw [if_pos hlt, if_pos (by omega)]
    · rw [if_neg hlt, if_neg (by omega)])

/-- An entry without failures: its snapshot stays nil. -/
theorem snap_none {w : World} {gp gs n m : Nat} {P : Nat → Option Addr} {S : Nat → Value} {fp : Nat → Value} (hp : RowF w gp 31 n fp) (h : RowF w gs 32 n (fun j => if j < m then S j else .slice none 0 0)) (hr : ∀ j, j < m → Rel w (P j) (S j)) (hm : none = P m) {u : Value} :
    ∃ S : Nat → Value, RowF (w.setCell ⟨gp, m, none⟩ u) gs 32 n (fun j => if j < m + 1 then S j else .slice none 0 0) ∧ ∀ j, j < m + 1 → Rel (w.setCell ⟨gp, m, none⟩ u) (P j) (S j) := by
  refine ⟨fun j => if j < m then S j else .slice none 0 0, (h.other (h.ne hp (by decide)) _).congr (fun j hj => ?_), fun j hj => ?_⟩
  · by_cases hlt : j < m
    · simp [hlt, show j < m + 1 by omega]
    · simp [hlt]
  · by_cases hlt : j < m
    · simp only [if_pos hlt]
      exact (hr j hlt).setCell hp (by decide) (by decide) m u
    · obtain rfl : j = m := by omega
      simp only [if_neg hlt]
      exact .inl ⟨hm.symm, rfl⟩

/-- An entry with failures: its snapshot is stored. -/
theorem snap_some {w : World} {gs n m : Nat} {P : Nat → Option Addr} {S : Nat → Value} {s : Value} (h : RowF w gs 32 n (fun j => if j < m then S j else .slice none 0 0)) (hr : ∀ j, j < m → Rel w (P j) (S j)) (hs : Rel w (P m) s) :
    ∃ S : Nat → Value, RowF (w.setCell ⟨gs, m, none⟩ s) gs 32 n (fun j => if j < m + 1 then S j else .slice none 0 0) ∧ ∀ j, j < m + 1 → Rel (w.setCell ⟨gs, m, none⟩ s) (P j) (S j) := by
  refine ⟨fun j => if j < m then S j else s, h.store m _ (fun _ => by simp) (fun j _ hj => ?_), fun j hj => ?_⟩
  · by_cases hlt : j < m
    · simp [hlt, show j < m + 1 by omega]
    · simp [hlt, show ¬ j < m + 1 by omega]
  · by_cases hlt : j < m
    · simp only [if_pos hlt]
      exact (hr j hlt).setCell h (by decide) (by decide) m s
    · obtain rfl : j = m := by omega
      simp only [if_neg hlt]
      exact hs.setCell h (by decide) (by decide) j s

end Go.Proofs.Ybulkdtse.lawS6023AWhole
