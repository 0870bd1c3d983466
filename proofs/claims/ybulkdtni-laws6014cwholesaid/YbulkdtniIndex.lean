/-
  Graph.Index and fromLinks's own 'index': the node that carries an id.
-/
import Derived.Test.YbulkdtniSearch
namespace Go.Proofs.Ybulkdtni.lawS6014CWhole
open Go.RowKit Go.Proofs.Ybulkdtni.Own
open Go.Sort (ltInt)

theorem idx29 (W : World) (B1 B2 G n c : Nat) (a : Option Addr) (f : Nat → Int) (x : Int) (h1 : W.cell? ⟨B1, 0, none⟩ = some (.pointer (some ⟨G, 0, none⟩))) (h2 : W.cell? ⟨B2, 0, none⟩ = some (.int .u64 x)) (h3 : W.cell? ⟨G, 0, none⟩ = some (.slice a n c)) (hA : Hid (Arr W a n .u64 f)) (i : Nat) (hi : i < n) :
    Calls Yba.prog 29 #[.int .i64 i, .pointer (some ⟨B1, 0, none⟩), .pointer (some ⟨B2, 0, none⟩)] W fun e w' => e = .returned (.bool (decide (x ≤ f i))) ∧ ∃ q, w' = W.drewN q := by
  obtain ⟨b, off, rfl, hc⟩ := hA.out i hi
  have q1 : (0 : Int) ≤ i := by omega
  have q2 : (i : Int) < n := by omega
  go_enter Yba.func29, Yba.ntmps29
  go_wp2_with fail
  go_quiet (fail)
  go_wp2
  go_ret
  exact ⟨rfl, _, rfl⟩

set_option maxHeartbeats 2000000 in
theorem search28 (w : World) (B1 B2 G n c : Nat) (a : Option Addr) (f : Nat → Int) (x : Int) (p : Nat) (h1 : w.cell? ⟨B1, 0, none⟩ = some (.pointer (some ⟨G, 0, none⟩))) (h2 : w.cell? ⟨B2, 0, none⟩ = some (.int .u64 x)) (h3 : w.cell? ⟨G, 0, none⟩ = some (.slice a n c)) (hA : Hid (Arr w a n .u64 f)) (hn : n ≤ 1048576) (hp : p ≤ n) (hlo : Hid (∀ t, t < p → f t < x)) (hhi : Hid (∀ t, p ≤ t → t < n → x ≤ f t)) :
    Calls Yba.prog 28 #[.int .i64 n, .func (.func 29) #[] #[.pointer (some ⟨B1, 0, none⟩), .pointer (some ⟨B2, 0, none⟩)]] w fun e w' => e = .returned (.int .i64 p) ∧ ∃ q, w' = w.drewN q := by
  have H1 := hide h1
  have H2 := hide h2
  have H3 := hide h3
  clear h1 h2 h3
  go_enter Yba.func28, Yba.ntmps28
  go_wp2_with fail
  go_loopw [5, 6, 7] (fun vi vj _ wr => ∃ i j q : Nat, vi = .int .i64 i ∧ vj = .int .i64 j ∧ i ≤ p ∧ p ≤ j ∧ j ≤ n ∧ Hid (wr = w.drewN q)) (fun vi vj _ _ => ((intOf vj) - (intOf vi)).toNat)
  case atStart => exact ⟨0, n, 0, by simp, rfl, by omega, by omega, Nat.le_refl _, rfl⟩
  case round =>
    obtain ⟨i, j, q, rfl, rfl, hi, hj, hjn, hw⟩ := hrel
    by_cases hij : i < j
    · obtain ⟨h, hh⟩ : ∃ h : Nat, h = (i + j) / 2 := ⟨_, rfl⟩
      have k1 : i ≤ h := by omega
      have k2 : h < j := by omega
      have e1 : ((i : Int) + j) / 2 = (h : Int) := by omega
      have HH := hide hh
      clear hh
      go_wp2_with fail
      have hc := idx29 wr B1 B2 G n c a f x (by rw [hw.out]; exact H1.out) (by rw [hw.out]; exact H2.out) (by rw [hw.out]; exact H3.out) (hide (by rw [hw.out]; exact hA.out.drewN q)) h (by omega)
      refine hc.mono ?_
      rintro e w1 ⟨rfl, q1, rfl⟩
      clear hc
      have hw1 : Hid (wr.drewN q1 = w.drewN (q + q1)) := hide (by rw [hw.out, World.drewN_drewN])
      generalize hwq : wr.drewN q1 = wq at hw1 ⊢
      clear hwq
      by_cases hge : x ≤ f h
      · have hd : decide (x ≤ f h) = true := decide_eq_true hge
        have hph : p ≤ h := by
          rcases Nat.lt_or_ge h p with k | k
          · have := hlo.out h k; omega
          · exact k
        go_wp2
        go_roundw
        case rel => exact ⟨i, h, q + q1, rfl, rfl, hi, hph, by omega, hw1⟩
        case measure => simp [intOf]; omega
      · have hd : decide (x ≤ f h) = false := decide_eq_false hge
        have hph : h < p := by
          rcases Nat.lt_or_ge h p with k | k
          · exact k
          · exact absurd (hhi.out h k (by omega)) hge
        go_wp2
        go_roundw
        case rel => exact ⟨h + 1, j, q + q1, by go_num, rfl, by omega, hj, hjn, hw1⟩
        case measure => simp [intOf]; omega
    · obtain rfl : i = p := by omega
      go_wp2
      go_ret
      exact ⟨rfl, q, hw.out⟩

theorem Arr.below {w w' : World} {a : Option Addr} {n : Nat} {k : IntKind} {f : Nat → Int} (h : Arr w a n k f) (hb : Below w.heap.size w w') : Arr w' a n k f := by
  intro j hj
  obtain ⟨b, off, e, hc⟩ := h j hj
  exact ⟨b, off, e, by rw [hb.cell (by exact World.block_lt_of_cell? w _ hc)]; exact hc⟩

theorem cell_below {w w' : World} {p : Addr} {v : Value} (h : w.cell? p = some v) (hb : Below w.heap.size w w') : w'.cell? p = some v := by
  rw [hb.cell (World.block_lt_of_cell? w _ h)]; exact h

set_option maxHeartbeats 2000000 in
/-- Graph.Index of an id that node p carries. -/
theorem index18 (w : World) (G n c : Nat) (a : Option Addr) (f : Nat → Int) (x : Int) (p : Nat) (h3 : w.cell? ⟨G, 0, none⟩ = some (.slice a n c)) (hA : Hid (Arr w a n .u64 f)) (hn : n ≤ 1048576) (hp : p < n) (hlo : Hid (∀ t, t < p → f t < x)) (hhi : Hid (∀ t, p ≤ t → t < n → x ≤ f t)) (heq : f p = x) :
    Calls Yba.prog 18 #[.pointer (some ⟨G, 0, none⟩), .int .u64 x] w fun e w' => e = .returned (.tuple #[.int .i64 p, .bool true]) ∧ Below w.heap.size w w' := by
  have H3 := hide h3
  clear h3
  have hB : Below w.heap.size w ((w.alloc (.cells #[.pointer (some ⟨G, 0, none⟩)] 66)).alloc (.cells #[.int .u64 x] 24)) := ((Below.refl _ _).alloc (Nat.le_refl _) _).alloc (by simp) _
  have h3' := cell_below H3.out hB
  have hA' := hide (hA.out.below hB)
  have b1 : ((w.alloc (.cells #[.pointer (some ⟨G, 0, none⟩)] 66)).alloc (.cells #[.int .u64 x] 24)).cell? ⟨w.heap.size, 0, none⟩ = some (.pointer (some ⟨G, 0, none⟩)) := by
    rw [((Below.refl (w.heap.size + 1) (w.alloc (.cells #[.pointer (some ⟨G, 0, none⟩)] 66))).alloc (by simp) _).cell (by simp)]
    rw [cell_of_row _ _ _ _ _ _ (heap_alloc_new _ _)]; rfl
  have b2 : ((w.alloc (.cells #[.pointer (some ⟨G, 0, none⟩)] 66)).alloc (.cells #[.int .u64 x] 24)).cell? ⟨w.heap.size + 1, 0, none⟩ = some (.int .u64 x) := by
    have hs : (w.alloc (.cells #[.pointer (some ⟨G, 0, none⟩)] 66)).heap.size = w.heap.size + 1 := by simp
    rw [← hs, cell_of_row _ _ _ _ _ _ (heap_alloc_new _ _)]; rfl
  have HB := hide hB
  clear hB
  go_enter Yba.func18, Yba.ntmps18
  go_wp2_with fail
  generalize hw1 : (w.alloc (.cells #[.pointer (some ⟨G, 0, none⟩)] 66)).alloc (.cells #[.int .u64 x] 24) = w1 at h3' hA' b1 b2 HB ⊢
  refine (search28 w1 w.heap.size (w.heap.size + 1) G n c a f x p b1 b2 h3' hA' hn (by omega) hlo hhi).mono ?_
  rintro e w2 ⟨rfl, q, rfl⟩
  obtain ⟨b, off, rfl, hc⟩ := hA'.out p hp
  rw [heq] at hc
  have c1 : (w1.drewN q).cell? ⟨w.heap.size, 0, none⟩ = some (.pointer (some ⟨G, 0, none⟩)) := b1
  have c2 : (w1.drewN q).cell? ⟨w.heap.size + 1, 0, none⟩ = some (.int .u64 x) := b2
  have c3 : (w1.drewN q).cell? ⟨G, 0, none⟩ = some (.slice (some ⟨b, off, none⟩) n c) := h3'
  have c4 : (w1.drewN q).cell? ⟨b, off + p, none⟩ = some (.int .u64 x) := hc
  have HB2 : Hid (Below w.heap.size w (w1.drewN q)) := hide (below_drewN HB.out q)
  generalize hw2 : w1.drewN q = w2 at c1 c2 c3 c4 HB2 ⊢
  clear hw1 hw2 b1 b2 h3' hc hA' HB
  have q1 : (0 : Int) ≤ p := by omega
  have q2 : (p : Int) < n := by omega
  have q3 : decide ((p : Int) < (n : Int)) = true := decide_eq_true (by omega)
  go_wp2_with fail
  go_quiet (fail)
  go_wp2
  go_ret2
  exact ⟨rfl, below_drewN HB2.out _⟩

set_option maxHeartbeats 2000000 in
/-- fromLinks's own 'index'. -/
theorem idx17 (w : World) (B G n c : Nat) (a : Option Addr) (f : Nat → Int) (x : Int) (p : Nat) (h1 : w.cell? ⟨B, 0, none⟩ = some (.pointer (some ⟨G, 0, none⟩))) (h3 : w.cell? ⟨G, 0, none⟩ = some (.slice a n c)) (hA : Hid (Arr w a n .u64 f)) (hn : n ≤ 1048576) (hp : p < n) (hlo : Hid (∀ t, t < p → f t < x)) (hhi : Hid (∀ t, p ≤ t → t < n → x ≤ f t)) (heq : f p = x) :
    Calls Yba.prog 17 #[.int .u64 x, .pointer (some ⟨B, 0, none⟩)] w fun e w' => e = .returned (.int .i32 p) ∧ Below w.heap.size w w' := by
  go_enter Yba.func17, Yba.ntmps17
  go_wp2_with fail
  refine (index18 w G n c a f x p h3 hA hn hp hlo hhi heq).mono ?_
  rintro e w2 ⟨rfl, hb⟩
  have HB := hide hb
  clear hb h1 h3
  go_wp2
  go_ret
  exact ⟨rfl, HB.out⟩

end Go.Proofs.Ybulkdtni.lawS6014CWhole
