/-
  slices.siftDownOrdered, heapSortOrdered, reverseRangeOrdered at uint64.
-/
import Derived.Test.YbulkdtniIns
namespace Go.Proofs.Ybulkdtni.lawS6014CWhole
open Go.RowKit Go.Proofs.Ybulkdtni.Own
open Go.Sort (swp ltInt siftDown)

set_option maxHeartbeats 2000000 in
theorem sift58 (w : World) (g cap n c lo hi first : Nat) (tl : Nat → Value) (d : Array Int) (h0 : St w w g cap n tl d) (hb : first + hi ≤ n) (hlo : lo ≤ hi) (hn : n ≤ 1048576) :
    Calls Yba.prog 58 #[.slice (some ⟨g, 0, none⟩) n c, .int .i64 lo, .int .i64 hi, .int .i64 first] w fun e w' => e = .returned (.tuple #[]) ∧ St w w' g cap n tl (siftDown ltInt hi first lo d) := by
  have H0 := hide h0
  clear h0
  go_enter Yba.func58, Yba.ntmps58
  go_wp2_with fail
  go_loopw [8] (fun vi wr => ∃ (r : Nat) (dk : Array Int), vi = .int .i64 r ∧ r ≤ hi ∧ Hid (St w wr g cap n tl dk) ∧ Hid (siftDown ltInt hi first r dk = siftDown ltInt hi first lo d)) (fun vi _ => hi - (intOf vi).toNat)
  case atStart => exact ⟨lo, d, rfl, hlo, H0, rfl⟩
  case round =>
    obtain ⟨r, dk, rfl, hr, hS, hO⟩ := hrel
    by_cases hend : hi ≤ 2 * r + 1
    · go_wp2
      go_end0
      exact ⟨rfl, by rw [← hO.out, Sort.sd_end (lt := ltInt) dk hend]; exact hS.out⟩
    · obtain ⟨x0, hx0⟩ : ∃ x, x = dk[first + r]! := ⟨_, rfl⟩
      obtain ⟨x1, hx1⟩ : ∃ x, x = dk[first + (2 * r + 1)]! := ⟨_, rfl⟩
      have X0 := hide hx0
      have X1 := hide hx1
      have e0 : wr.cell? ⟨g, first + r, none⟩ = some (.int .u64 x0) := by rw [hx0]; exact hS.out.cell (by omega)
      have e1 : wr.cell? ⟨g, first + (2 * r + 1), none⟩ = some (.int .u64 x1) := by rw [hx1]; exact hS.out.cell (by omega)
      have f0 := hS.out.frozen (first + r)
      have f1 := hS.out.frozen (first + (2 * r + 1))
      clear hx0 hx1
      have q1 : (0 : Int) ≤ (first : Int) + (2 * (r : Int) + 1) := by omega
      have q2 : (first : Int) + (2 * (r : Int) + 1) < n := by omega
      have q3 : (0 : Int) ≤ (first : Int) + (r : Int) := by omega
      have q4 : (first : Int) + (r : Int) < n := by omega
      by_cases hg : 2 * r + 2 < hi
      · obtain ⟨x2, hx2⟩ : ∃ x, x = dk[first + (2 * r + 2)]! := ⟨_, rfl⟩
        have X2 := hide hx2
        have e2 : wr.cell? ⟨g, first + (2 * r + 1) + 1, none⟩ = some (.int .u64 x2) := by rw [hx2]; exact hS.out.cell (by omega)
        have f2 := hS.out.frozen (first + (2 * r + 1) + 1)
        clear hx2
        have q5 : decide (2 * (r : Int) + 1 + 1 < (hi : Int)) = true := decide_eq_true (by omega)
        have q6 : (0 : Int) ≤ (first : Int) + (2 * (r : Int) + 1) + 1 := by omega
        have q7 : (first : Int) + (2 * (r : Int) + 1) + 1 < n := by omega
        go_wp2
        go_quiet ((go_at_call 22; refine Calls.quiet_of_same (less22 _ _ _)))
        rcases hb2 : ltInt x1 x2 with _ | _
        · have wS : Hid (St w (wr.drewN nq) g cap n tl dk) := hide (hS.out.drewN nq)
          have p0 : (wr.drewN nq).cell? ⟨g, first + r, none⟩ = some (.int .u64 x0) := by rw [X0.out]; exact wS.out.cell (by omega)
          have p1 : (wr.drewN nq).cell? ⟨g, first + (2 * r + 1), none⟩ = some (.int .u64 x1) := by rw [X1.out]; exact wS.out.cell (by omega)
          have o0 : (wr.drewN nq).frozen? ⟨g, first + r, none⟩ = false := wS.out.frozen _
          have o1 : (wr.drewN nq).frozen? ⟨g, first + (2 * r + 1), none⟩ = false := wS.out.frozen _
          generalize hwq : wr.drewN nq = wq at wS p0 p1 o0 o1 ⊢
          clear e0 e1 f0 f1 e2 f2 hwq hS
          have q8 : (0 : Int) ≤ (first : Int) + (2 * (r : Int) + 1) := by omega
          have q9 : (first : Int) + (2 * (r : Int) + 1) < n := by omega
          go_wp2_with fail
          go_quiet ((go_at_call 22; refine Calls.quiet_of_same (less22 _ _ _)))
          have vS : Hid (St w (wq.drewN nq) g cap n tl dk) := hide (wS.out.drewN nq)
          have r0 : (wq.drewN nq).cell? ⟨g, first + r, none⟩ = some (.int .u64 x0) := p0
          have r1 : (wq.drewN nq).cell? ⟨g, first + (2 * r + 1), none⟩ = some (.int .u64 x1) := p1
          have s0 : (wq.drewN nq).frozen? ⟨g, first + r, none⟩ = false := o0
          have s1 : (wq.drewN nq).frozen? ⟨g, first + (2 * r + 1), none⟩ = false := o1
          generalize hwz : wq.drewN nq = wz at vS r0 r1 s0 s1 ⊢
          clear p0 p1 o0 o1 hwz wS
          rcases hb3 : ltInt x0 x1 with _ | _
          · go_wp2
            exact bodyPost_ret (v := .tuple #[]) (by simp [results, go_sem]) rfl ⟨rfl, by rw [← hO.out, Sort.sd_left_stop ltInt dk (by omega) (fun _ => by rw [← X1.out, ← X2.out]; exact hb2) (by rw [← X0.out, ← X1.out]; exact hb3)]; exact vS.out⟩
          · go_wp2_with fail
            go_region
            all_goals go_wp2
            go_roundw
            case rel => exact ⟨2 * r + 1, swp dk (first + r) (first + (2 * r + 1)), by go_num, by omega, hide (vS.out.swap (by omega) (by omega) X1.out X0.out).drew, hide (by rw [← hO.out, Sort.sd_left_go ltInt dk (by omega) (fun _ => by rw [← X1.out, ← X2.out]; exact hb2) (by rw [← X0.out, ← X1.out]; exact hb3)])⟩
            case measure => simp [intOf]; omega
        · have wS : Hid (St w (wr.drewN nq) g cap n tl dk) := hide (hS.out.drewN nq)
          have p0 : (wr.drewN nq).cell? ⟨g, first + r, none⟩ = some (.int .u64 x0) := by rw [X0.out]; exact wS.out.cell (by omega)
          have p1 : (wr.drewN nq).cell? ⟨g, first + (2 * r + 1 + 1), none⟩ = some (.int .u64 x2) := by rw [X2.out]; exact wS.out.cell (by omega)
          have o0 : (wr.drewN nq).frozen? ⟨g, first + r, none⟩ = false := wS.out.frozen _
          have o1 : (wr.drewN nq).frozen? ⟨g, first + (2 * r + 1 + 1), none⟩ = false := wS.out.frozen _
          generalize hwq : wr.drewN nq = wq at wS p0 p1 o0 o1 ⊢
          clear e0 e1 f0 f1 e2 f2 hwq hS
          have q8 : (0 : Int) ≤ (first : Int) + (2 * (r : Int) + 1 + 1) := by omega
          have q9 : (first : Int) + (2 * (r : Int) + 1 + 1) < n := by omega
          go_wp2_with fail
          go_quiet ((go_at_call 22; refine Calls.quiet_of_same (less22 _ _ _)))
          have vS : Hid (St w (wq.drewN nq) g cap n tl dk) := hide (wS.out.drewN nq)
          have r0 : (wq.drewN nq).cell? ⟨g, first + r, none⟩ = some (.int .u64 x0) := p0
          have r1 : (wq.drewN nq).cell? ⟨g, first + (2 * r + 1 + 1), none⟩ = some (.int .u64 x2) := p1
          have s0 : (wq.drewN nq).frozen? ⟨g, first + r, none⟩ = false := o0
          have s1 : (wq.drewN nq).frozen? ⟨g, first + (2 * r + 1 + 1), none⟩ = false := o1
          generalize hwz : wq.drewN nq = wz at vS r0 r1 s0 s1 ⊢
          clear p0 p1 o0 o1 hwz wS
          rcases hb3 : ltInt x0 x2 with _ | _
          · go_wp2
            exact bodyPost_ret (v := .tuple #[]) (by simp [results, go_sem]) rfl ⟨rfl, by rw [← hO.out, Sort.sd_right_stop ltInt dk hg (by rw [← X1.out, ← X2.out]; exact hb2) (by rw [← X0.out, ← X2.out]; exact hb3)]; exact vS.out⟩
          · go_wp2_with fail
            go_region
            all_goals go_wp2
            go_roundw
            case rel => exact ⟨2 * r + 1 + 1, swp dk (first + r) (first + (2 * r + 1 + 1)), by go_num, by omega, hide (vS.out.swap (by omega) (by omega) X2.out X0.out).drew, hide (by rw [← hO.out, Sort.sd_right_go ltInt dk hg (by rw [← X1.out, ← X2.out]; exact hb2) (by rw [← X0.out, ← X2.out]; exact hb3)])⟩
            case measure => simp [intOf]; omega
      · have q5 : decide (2 * (r : Int) + 1 + 1 < (hi : Int)) = false := decide_eq_false (by omega)
        go_wp2
        go_quiet (fail)
        have wS : Hid (St w (wr.drewN nq) g cap n tl dk) := hide (hS.out.drewN nq)
        have p0 : (wr.drewN nq).cell? ⟨g, first + r, none⟩ = some (.int .u64 x0) := by rw [X0.out]; exact wS.out.cell (by omega)
        have p1 : (wr.drewN nq).cell? ⟨g, first + (2 * r + 1), none⟩ = some (.int .u64 x1) := by rw [X1.out]; exact wS.out.cell (by omega)
        have o0 : (wr.drewN nq).frozen? ⟨g, first + r, none⟩ = false := wS.out.frozen _
        have o1 : (wr.drewN nq).frozen? ⟨g, first + (2 * r + 1), none⟩ = false := wS.out.frozen _
        generalize hwq : wr.drewN nq = wq at wS p0 p1 o0 o1 ⊢
        clear e0 e1 f0 f1 hwq hS
        have q8 : (0 : Int) ≤ (first : Int) + (2 * (r : Int) + 1) := by omega
        have q9 : (first : Int) + (2 * (r : Int) + 1) < n := by omega
        go_wp2_with fail
        go_quiet ((go_at_call 22; refine Calls.quiet_of_same (less22 _ _ _)))
        have vS : Hid (St w (wq.drewN nq) g cap n tl dk) := hide (wS.out.drewN nq)
        have r0 : (wq.drewN nq).cell? ⟨g, first + r, none⟩ = some (.int .u64 x0) := p0
        have r1 : (wq.drewN nq).cell? ⟨g, first + (2 * r + 1), none⟩ = some (.int .u64 x1) := p1
        have s0 : (wq.drewN nq).frozen? ⟨g, first + r, none⟩ = false := o0
        have s1 : (wq.drewN nq).frozen? ⟨g, first + (2 * r + 1), none⟩ = false := o1
        generalize hwz : wq.drewN nq = wz at vS r0 r1 s0 s1 ⊢
        clear p0 p1 o0 o1 hwz wS
        rcases hb3 : ltInt x0 x1 with _ | _
        · go_wp2
          exact bodyPost_ret (v := .tuple #[]) (by simp [results, go_sem]) rfl ⟨rfl, by rw [← hO.out, Sort.sd_left_stop ltInt dk (by omega) (fun h => absurd h hg) (by rw [← X0.out, ← X1.out]; exact hb3)]; exact vS.out⟩
        · go_wp2_with fail
          go_region
          all_goals go_wp2
          go_roundw
          case rel => exact ⟨2 * r + 1, swp dk (first + r) (first + (2 * r + 1)), by go_num, by omega, hide (vS.out.swap (by omega) (by omega) X1.out X0.out).drew, hide (by rw [← hO.out, Sort.sd_left_go ltInt dk (by omega) (fun h => absurd h hg) (by rw [← X0.out, ← X1.out]; exact hb3)])⟩
          case measure => simp [intOf]; omega

open Go.Sort (heapBuild heapPop)

theorem half31 (H : Nat) : ((H : Int) - 1).tdiv 2 = (((H - 1) / 2 + 1 : Nat) : Int) - 1 := by
  have := half_start (a := 0) (b := H) (Nat.zero_le _)
  simpa using this

set_option maxHeartbeats 2000000 in
theorem heap31 (w : World) (g cap n c a H : Nat) (tl : Nat → Value) (d : Array Int) (h0 : St w w g cap n tl d) (hb : a + H ≤ n) (hn : n ≤ 1048576) :
    Calls Yba.prog 31 #[.slice (some ⟨g, 0, none⟩) n c, .int .i64 a, .int .i64 ((a : Int) + H)] w fun e w' => e = .returned (.tuple #[]) ∧ St w w' g cap n tl (Sort.heapSort ltInt d a (a + H)) := by
  have H0 := hide h0
  clear h0
  have eH : (a : Int) + H - a = H := by omega
  go_enter Yba.func31, Yba.ntmps31
  go_wp2_with fail
  go_loopw [9] (fun vi wr => ∃ (k : Nat) (dk : Array Int), vi = .int .i64 ((k : Int) - 1) ∧ k ≤ (H - 1) / 2 + 1 ∧ Hid (St w wr g cap n tl dk) ∧ Hid (heapBuild ltInt H a k dk = heapBuild ltInt H a ((H - 1) / 2 + 1) d)) (fun vi _ => ((intOf vi) + 1).toNat)
  case atStart => exact ⟨(H - 1) / 2 + 1, d, by first | (rw [half31]) | (congr 1; have := half31 H; omega), Nat.le_refl _, H0, rfl⟩
  case round =>
    obtain ⟨k, dk, rfl, hk, hS, hO⟩ := hrel
    by_cases h0 : k = 0
    · subst h0
      rw [show (((0 : Nat) : Int) - 1) = -1 from rfl]
      go_wp2_with fail
      go_loopw [10] (fun vi wr => ∃ (k : Nat) (dj : Array Int), vi = .int .i64 ((k : Int) - 1) ∧ k ≤ H ∧ Hid (St w wr g cap n tl dj) ∧ Hid (heapPop ltInt a k dj = heapPop ltInt a H dk)) (fun vi _ => ((intOf vi) + 1).toNat)
      case atStart => exact ⟨H, dk, rfl, Nat.le_refl _, hS, rfl⟩
      case round =>
        obtain ⟨k, dj, rfl, hk, hSj, hP⟩ := hrel
        by_cases h0 : k = 0
        · subst h0
          go_wp2
          go_end0
          exact ⟨rfl, by
            have e1 : heapPop ltInt a 0 dj = dj := rfl
            have e2 : heapBuild ltInt H a 0 dk = dk := rfl
            have : Sort.heapSort ltInt d a (a + H) = dj := by
              unfold Sort.heapSort
              rw [Nat.add_sub_cancel_left, ← hO.out, e2, ← hP.out, e1]
            rw [this]; exact hSj.out⟩
        · obtain ⟨m, rfl⟩ : ∃ m, k = m + 1 := ⟨k - 1, by omega⟩
          by_cases hm : m = 0
          · subst hm
            obtain ⟨x, hx⟩ : ∃ x, x = dj[a]! := ⟨_, rfl⟩
            have HX := hide hx
            have c0 : wr.cell? ⟨g, a, none⟩ = some (.int .u64 x) := by rw [hx]; exact hSj.out.cell (by omega)
            have f0 := hSj.out.frozen a
            clear hx
            have q3 : (a : Int) < n := by omega
            have q4 : (0 : Int) ≤ (a : Int) := by omega
            go_wp2_with fail
            go_region
            all_goals go_wp2_with fail
            have hSw : Hid (St w ((wr.setCell ⟨g, a, none⟩ (.int .u64 x)).setCell ⟨g, a, none⟩ (.int .u64 x)).drew g cap n tl (swp dj a (a + 0))) := hide (hSj.out.swap (i := a) (j := a) (by omega) (by omega) HX.out HX.out).drew
            generalize hwz : ((wr.setCell ⟨g, a, none⟩ (.int .u64 x)).setCell ⟨g, a, none⟩ (.int .u64 x)).drew = wz at hSw ⊢
            clear c0 f0 hwz
            refine (sift58 wz g cap n c 0 0 a tl _ hSw.out.start (by omega) (by omega) hn).mono ?_
            rintro e w3 ⟨rfl, h3⟩
            have h4 := hide (hSw.out.trans h3)
            clear h3
            go_wp2
            go_roundw
            case rel => exact ⟨0, _, by go_num, by omega, h4, hide (by rw [← hP.out]; rfl)⟩
            case measure => simp [intOf]
          obtain ⟨x, hx⟩ : ∃ x, x = dj[a]! := ⟨_, rfl⟩
          obtain ⟨y, hy⟩ : ∃ y, y = dj[a + m]! := ⟨_, rfl⟩
          have HX := hide hx
          have HY := hide hy
          have c0 : wr.cell? ⟨g, a, none⟩ = some (.int .u64 x) := by rw [hx]; exact hSj.out.cell (by omega)
          have c1 : wr.cell? ⟨g, a + m, none⟩ = some (.int .u64 y) := by rw [hy]; exact hSj.out.cell (by omega)
          have f0 := hSj.out.frozen a
          have f1 := hSj.out.frozen (a + m)
          clear hx hy
          have q0 : (0 : Int) ≤ (m : Int) := by omega
          have q1 : (0 : Int) ≤ (a : Int) + m := by omega
          have q2 : (a : Int) + m < n := by omega
          have q3 : (a : Int) < n := by omega
          have q4 : (0 : Int) ≤ (a : Int) := by omega
          go_wp2_with fail
          go_region
          all_goals go_wp2_with fail
          have hSw : Hid (St w ((wr.setCell ⟨g, a, none⟩ (.int .u64 y)).setCell ⟨g, a + m, none⟩ (.int .u64 x)).drew g cap n tl (swp dj a (a + m))) := hide (hSj.out.swap (by omega) (by omega) HY.out HX.out).drew
          generalize hwz : ((wr.setCell ⟨g, a, none⟩ (.int .u64 y)).setCell ⟨g, a + m, none⟩ (.int .u64 x)).drew = wz at hSw ⊢
          clear c0 c1 f0 f1 hwz
          refine (sift58 wz g cap n c 0 m a tl _ hSw.out.start (by omega) (by omega) hn).mono ?_
          rintro e w3 ⟨rfl, h3⟩
          have h4 := hide (hSw.out.trans h3)
          clear h3
          go_wp2
          go_roundw
          case rel => exact ⟨m, _, by go_num, by omega, h4, hide (by rw [← hP.out]; rfl)⟩
          case measure => simp [intOf]
    · obtain ⟨m, rfl⟩ : ∃ m, k = m + 1 := ⟨k - 1, by omega⟩
      go_wp2_with fail
      refine (sift58 wr g cap n c m H a tl _ hS.out.start (by omega) (by omega) hn).mono ?_
      rintro e w3 ⟨rfl, h3⟩
      have h4 := hide (hS.out.trans h3)
      clear h3
      go_wp2
      go_roundw
      case rel => exact ⟨m, _, by go_num, by omega, h4, hide (by rw [← hO.out]; rfl)⟩
      case measure => simp [intOf]

open Go.Sort (reverseLoop)

theorem reverseLoop_go (i j : Nat) (d : Array Int) (h : i < j) : reverseLoop i j d = reverseLoop (i + 1) (j - 1) (swp d i j) := by rw [reverseLoop, if_pos h]
theorem reverseLoop_stop (i j : Nat) (d : Array Int) (h : ¬ i < j) : reverseLoop i j d = d := by rw [reverseLoop, if_neg h]

set_option maxHeartbeats 2000000 in
theorem rev34 (w : World) (g cap n c a b : Nat) (tl : Nat → Value) (d : Array Int) (h0 : St w w g cap n tl d) (hab : a < b) (hb : b ≤ n) (hn : n ≤ 1048576) :
    Calls Yba.prog 34 #[.slice (some ⟨g, 0, none⟩) n c, .int .i64 a, .int .i64 b] w fun e w' => e = .returned (.tuple #[]) ∧ St w w' g cap n tl (Sort.reverseRange d a b) := by
  have H0 := hide h0
  clear h0
  go_enter Yba.func34, Yba.ntmps34
  go_wp2_with fail
  go_loopw [6, 7] (fun vi vj wr => ∃ (i j : Nat) (dk : Array Int), vi = .int .i64 i ∧ vj = .int .i64 j ∧ i ≤ b ∧ j < b ∧ Hid (St w wr g cap n tl dk) ∧ Hid (reverseLoop i j dk = reverseLoop a (b - 1) d)) (fun _ vj _ => (intOf vj).toNat)
  case atStart => exact ⟨a, b - 1, d, rfl, by congr 1; omega, by omega, by omega, H0, rfl⟩
  case round =>
    obtain ⟨i, j, dk, rfl, rfl, hi, hj, hS, hO⟩ := hrel
    by_cases hlt : i < j
    · obtain ⟨x, hx⟩ : ∃ x, x = dk[i]! := ⟨_, rfl⟩
      obtain ⟨y, hy⟩ : ∃ y, y = dk[j]! := ⟨_, rfl⟩
      have HX := hide hx
      have HY := hide hy
      have c0 : wr.cell? ⟨g, i, none⟩ = some (.int .u64 x) := by rw [hx]; exact hS.out.cell (by omega)
      have c1 : wr.cell? ⟨g, j, none⟩ = some (.int .u64 y) := by rw [hy]; exact hS.out.cell (by omega)
      have f0 := hS.out.frozen i
      have f1 := hS.out.frozen j
      clear hx hy
      have q1 : (i : Int) < n := by omega
      have q2 : (j : Int) < n := by omega
      go_wp2_with fail
      go_region
      all_goals go_wp2
      go_roundw
      case rel => exact ⟨i + 1, j - 1, swp dk i j, by go_num, by congr 1; omega, by omega, by omega, hide (hS.out.swap (by omega) (by omega) HY.out HX.out).drew, hide (by rw [← hO.out, ← reverseLoop_go i j dk hlt])⟩
      case measure => simp [intOf]; omega
    · go_wp2
      go_end0
      exact ⟨rfl, by unfold Sort.reverseRange; rw [← hO.out, reverseLoop_stop i j dk hlt]; exact hS.out⟩

end Go.Proofs.Ybulkdtni.lawS6014CWhole
