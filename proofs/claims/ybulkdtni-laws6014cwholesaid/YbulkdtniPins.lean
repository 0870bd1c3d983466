/-
  slices.partialInsertionSortOrdered at uint64: it computes the kit's plain function.
-/
import Derived.Test.YbulkdtniPartEq
import Derived.Sort.WalkA6
namespace Go.Proofs.Ybulkdtni.lawS6014CWhole
open Go.RowKit Go.Proofs.Ybulkdtni.Own
open Go.Sort (swp ltInt partialIns scanSorted shiftDown shiftUp fixDown fixUp)

theorem fixDown_no {a i : Nat} {d : Array Int} (h : ¬ i - a ≥ 2) : fixDown ltInt a i d = d := if_neg h
theorem fixDown_yes {a i : Nat} {d : Array Int} (h : i - a ≥ 2) : fixDown ltInt a i d = shiftDown ltInt (i - 1) d := if_pos h
theorem fixUp_no {b i : Nat} {d : Array Int} (h : ¬ b - i ≥ 2) : fixUp ltInt b i d = d := if_neg h
theorem fixUp_yes {b i : Nat} {d : Array Int} (h : b - i ≥ 2) : fixUp ltInt b i d = shiftUp ltInt b (i + 1) d := if_pos h

set_option maxRecDepth 100000 in
set_option maxHeartbeats 8000000 in
theorem pins35 (w : World) (g cap n c a b : Nat) (tl : Nat → Value) (d : Array Int) (h0 : St w w g cap n tl d) (hab : a < b) (hb : b ≤ n) (hn : n ≤ 1048576) :
    Calls Yba.prog 35 #[.slice (some ⟨g, 0, none⟩) n c, .int .i64 a, .int .i64 b] w fun e w' => e = .returned (.bool (Sort.partialInsertionSort ltInt d a b).2) ∧ St w w' g cap n tl (Sort.partialInsertionSort ltInt d a b).1 := by
  have H0 := hide h0
  clear h0
  go_enter Yba.func35, Yba.ntmps35
  go_wp2_with fail
  go_loopw [7, 8] (fun vi vs wr => ∃ (i s : Nat) (D : Array Int), vi = .int .i64 i ∧ vs = .int .i64 s ∧ s ≤ 5 ∧ a < i ∧ i ≤ b ∧ Hid (St w wr g cap n tl D) ∧ Hid (partialIns ltInt a b (5 - s) i D = Sort.partialInsertionSort ltInt d a b)) (fun _ vs _ => 5 - (intOf vs).toNat)
  case atStart => exact ⟨a + 1, 0, d, by go_num, rfl, by omega, by omega, by omega, H0, rfl⟩
  case round =>
    clear H0
    obtain ⟨i0, s, D, rfl, rfl, hs, hi0, hi1, hS, hO⟩ := hrel
    by_cases hs5 : s = 5
    · subst hs5
      go_wp2
      go_ret
      exact ⟨by rw [← hO.out]; rfl, by rw [← hO.out]; exact hS.out⟩
    · go_wp2_with fail
      go_loopw [7] (fun vi wr => ∃ (i : Nat), vi = .int .i64 i ∧ a < i ∧ i ≤ b ∧ Hid (St w wr g cap n tl D) ∧ Hid (scanSorted ltInt D b i0 = scanSorted ltInt D b i)) (fun vi _ => b - (intOf vi).toNat)
      case atStart => exact ⟨i0, rfl, hi0, hi1, hS, rfl⟩
      case round =>
        clear hS hi0 hi1
        obtain ⟨i, rfl, hi0, hi1, hS, hK⟩ := hrel
        by_cases hlt : i < b
        · obtain ⟨k, rfl⟩ : ∃ k, i = k + 1 := ⟨i - 1, by omega⟩
          obtain ⟨x, hx⟩ : ∃ x, x = D[k + 1]! := ⟨_, rfl⟩
          obtain ⟨y, hy⟩ : ∃ y, y = D[k]! := ⟨_, rfl⟩
          have HX := hide hx
          have HY := hide hy
          have c1 : wr.cell? ⟨g, k + 1, none⟩ = some (.int .u64 x) := by rw [hx]; exact hS.out.cell (by omega)
          have c0 : wr.cell? ⟨g, k, none⟩ = some (.int .u64 y) := by rw [hy]; exact hS.out.cell (by omega)
          clear hx hy
          have q1 : decide ((k : Int) + 1 < (b : Int)) = true := decide_eq_true (by omega)
          have q2 : (0 : Int) ≤ (k : Int) + 1 := by omega
          have q3 : (k : Int) + 1 < n := by omega
          have q4 : (0 : Int) ≤ (k : Int) := by omega
          have q5 : (k : Int) < n := by omega
          go_wp2
          go_quiet ((go_at_call 22; refine Calls.quiet_of_same (less22 _ _ _)))
          have tS := hide (hS.out.drewN nq)
          have c1' : (wr.drewN nq).cell? ⟨g, k + 1, none⟩ = some (.int .u64 x) := c1
          have c0' : (wr.drewN nq).cell? ⟨g, k, none⟩ = some (.int .u64 y) := c0
          generalize hwq : wr.drewN nq = wq at tS c1' c0' ⊢
          clear c1 c0 hwq hS
          rcases hl : ltInt x y with _ | _
          · go_wp2
            go_roundw
            case rel => exact ⟨k + 1 + 1, by go_num, by omega, by omega, tS, hide (by rw [hK.out]; exact scanSorted_go ltInt D b (k + 1) hlt (by simp only [Nat.add_sub_cancel]; rw [← HX.out, ← HY.out]; exact hl))⟩
            case measure => simp [intOf]; omega
          · have hKK : Hid (scanSorted ltInt D b i0 = k + 1) := hide (by rw [hK.out]; exact scanSorted_stop ltInt D b (k + 1) (Or.inr (by simp only [Nat.add_sub_cancel]; rw [← HX.out, ← HY.out]; exact hl)))
            have q6 : ((k : Int) + 1 == (b : Int)) = false := by simpa using (by omega : ¬ (k : Int) + 1 = (b : Int))
            by_cases h50 : b - a < 50
            · have q7 : decide ((b : Int) - (a : Int) < 50) = true := decide_eq_true (by omega)
              go_wp2
              go_ret
              have e1 := pi_short ltInt a b s i0 D (by omega) (by rw [hKK.out]; omega) h50
              exact ⟨by rw [← hO.out, e1]; rfl, by rw [← hO.out, e1]; exact tS.out⟩
            · have q7 : decide ((b : Int) - (a : Int) < 50) = false := decide_eq_false (by omega)
              have e2 : Hid (partialIns ltInt a b (5 - (s + 1)) (k + 1) (fixUp ltInt b (k + 1) (fixDown ltInt a (k + 1) (swp D (k + 1) k))) = Sort.partialInsertionSort ltInt d a b) := hide (by
                have := pi_go ltInt a b s i0 (k + 1) D (by omega) hKK.out (by omega) h50
                simp only [Nat.add_sub_cancel] at this
                rw [← hO.out, this])
              by_cases hd : k + 1 - a ≥ 2
              · have q8 : decide ((2 : Int) ≤ (k : Int) + 1 - (a : Int)) = true := decide_eq_true (by omega)
                have f1 := tS.out.frozen (k + 1)
                have f0 := tS.out.frozen k
                go_wp2_with fail
                go_region
                all_goals go_wp2_with fail
                have zS : Hid (St w ((wq.setCell ⟨g, k + 1, none⟩ (.int .u64 y)).setCell ⟨g, k, none⟩ (.int .u64 x)).drew g cap n tl (swp D (k + 1) k)) := hide (tS.out.swap (by omega) (by omega) HY.out HX.out).drew
                generalize hwz : ((wq.setCell ⟨g, k + 1, none⟩ (.int .u64 y)).setCell ⟨g, k, none⟩ (.int .u64 x)).drew = wz at zS ⊢
                generalize hD1 : swp D (k + 1) k = D1 at zS e2
                clear c1' c0' f1 f0 hwz tS HX HY hl hK hKK hO hD1
                have eD : Hid (partialIns ltInt a b (5 - (s + 1)) (k + 1) (fixUp ltInt b (k + 1) (shiftDown ltInt k D1)) = Sort.partialInsertionSort ltInt d a b) := hide (by
                  have := fixDown_yes (a := a) (i := k + 1) (d := D1) hd
                  simp only [Nat.add_sub_cancel] at this
                  rw [← e2.out, this])
                go_wp2_with fail
                go_loopw [9] (fun vj wr => ∃ (j : Nat) (U : Array Int), vj = .int .i64 j ∧ j ≤ k ∧ Hid (St w wr g cap n tl U) ∧ Hid (shiftDown ltInt j U = shiftDown ltInt k D1)) (fun vj _ => (intOf vj).toNat)
                case atStart => exact ⟨k, D1, rfl, by omega, zS, rfl⟩
                case round =>
                  clear zS e2
                  obtain ⟨j, U, rfl, j1, hU, hV⟩ := hrel
                  by_cases hj : 1 ≤ j
                  · obtain ⟨m, rfl⟩ : ∃ m, j = m + 1 := ⟨j - 1, by omega⟩
                    obtain ⟨x, hx⟩ : ∃ x, x = U[m + 1]! := ⟨_, rfl⟩
                    obtain ⟨y, hy⟩ : ∃ y, y = U[m]! := ⟨_, rfl⟩
                    have HX := hide hx
                    have HY := hide hy
                    have c1 : wr.cell? ⟨g, m + 1, none⟩ = some (.int .u64 x) := by rw [hx]; exact hU.out.cell (by omega)
                    have c0 : wr.cell? ⟨g, m, none⟩ = some (.int .u64 y) := by rw [hy]; exact hU.out.cell (by omega)
                    clear hx hy
                    have r1 : decide ((1 : Int) ≤ (m : Int) + 1) = true := decide_eq_true (by omega)
                    have r2 : (0 : Int) ≤ (m : Int) + 1 := by omega
                    have r3 : (m : Int) + 1 < n := by omega
                    have r4 : (0 : Int) ≤ (m : Int) := by omega
                    have r5 : (m : Int) < n := by omega
                    go_wp2_with fail
                    go_quiet ((go_at_call 22; refine Calls.quiet_of_same (less22 _ _ _)))
                    have xS := hide (hU.out.drewN nq)
                    have c1' : (wr.drewN nq).cell? ⟨g, m + 1, none⟩ = some (.int .u64 x) := c1
                    have c0' : (wr.drewN nq).cell? ⟨g, m, none⟩ = some (.int .u64 y) := c0
                    generalize hwq : wr.drewN nq = wq at xS c1' c0' ⊢
                    clear c1 c0 hwq hU
                    have f1 := xS.out.frozen (m + 1)
                    have f0 := xS.out.frozen m
                    rcases hl : ltInt x y with _ | _
                    · have eE : Hid (partialIns ltInt a b (5 - (s + 1)) (k + 1) (fixUp ltInt b (k + 1) U) = Sort.partialInsertionSort ltInt d a b) := hide (by rw [← eD.out, ← hV.out, shiftDown_stop ltInt (m + 1) U (Or.inr (by simp only [Nat.add_sub_cancel]; rw [← HX.out, ← HY.out]; exact hl))])
                      clear HX HY hl hV eD c1' c0' f1 f0 r1 r2 r3 r4 r5
                      by_cases hu : b - (k + 1) ≥ 2
                      · have q9 : decide ((2 : Int) ≤ (b : Int) - ((k : Int) + 1)) = true := decide_eq_true (by omega)
                        have eU : Hid (partialIns ltInt a b (5 - (s + 1)) (k + 1) (shiftUp ltInt b (k + 1 + 1) U) = Sort.partialInsertionSort ltInt d a b) := hide (by rw [← eE.out, fixUp_yes hu])
                        go_wp2_with fail
                        go_loopw [10] (fun vj wr => ∃ (j : Nat) (U2 : Array Int), vj = .int .i64 j ∧ k + 1 < j ∧ j ≤ b ∧ Hid (St w wr g cap n tl U2) ∧ Hid (shiftUp ltInt b j U2 = shiftUp ltInt b (k + 1 + 1) U)) (fun vj _ => b - (intOf vj).toNat)
                        case atStart => exact ⟨k + 1 + 1, U, by go_num, by omega, by omega, xS, rfl⟩
                        case round =>
                          clear xS
                          obtain ⟨j, U2, rfl, j1, j2, hU, hV⟩ := hrel
                          by_cases hj : j < b
                          · obtain ⟨m, rfl⟩ : ∃ m, j = m + 1 := ⟨j - 1, by omega⟩
                            obtain ⟨x, hx⟩ : ∃ x, x = U2[m + 1]! := ⟨_, rfl⟩
                            obtain ⟨y, hy⟩ : ∃ y, y = U2[m]! := ⟨_, rfl⟩
                            have HX := hide hx
                            have HY := hide hy
                            have c1 : wr.cell? ⟨g, m + 1, none⟩ = some (.int .u64 x) := by rw [hx]; exact hU.out.cell (by omega)
                            have c0 : wr.cell? ⟨g, m, none⟩ = some (.int .u64 y) := by rw [hy]; exact hU.out.cell (by omega)
                            clear hx hy
                            have r1 : decide ((m : Int) + 1 < (b : Int)) = true := decide_eq_true (by omega)
                            have r2 : (0 : Int) ≤ (m : Int) + 1 := by omega
                            have r3 : (m : Int) + 1 < n := by omega
                            have r4 : (0 : Int) ≤ (m : Int) := by omega
                            have r5 : (m : Int) < n := by omega
                            go_wp2_with fail
                            go_quiet ((go_at_call 22; refine Calls.quiet_of_same (less22 _ _ _)))
                            have xS := hide (hU.out.drewN nq)
                            have c1' : (wr.drewN nq).cell? ⟨g, m + 1, none⟩ = some (.int .u64 x) := c1
                            have c0' : (wr.drewN nq).cell? ⟨g, m, none⟩ = some (.int .u64 y) := c0
                            generalize hwq : wr.drewN nq = wq at xS c1' c0' ⊢
                            clear c1 c0 hwq hU
                            have f1 := xS.out.frozen (m + 1)
                            have f0 := xS.out.frozen m
                            rcases hl : ltInt x y with _ | _
                            · have eV : Hid (partialIns ltInt a b (5 - (s + 1)) (k + 1) U2 = Sort.partialInsertionSort ltInt d a b) := hide (by rw [← eU.out, ← hV.out, shiftUp_stop ltInt b (m + 1) U2 (Or.inr (by simp only [Nat.add_sub_cancel]; rw [← HX.out, ← HY.out]; exact hl))])
                              go_wp2
                              go_roundw
                              case rel => exact ⟨k + 1, s + 1, _, rfl, by go_num, by omega, by omega, by omega, xS, eV⟩
                              case measure => simp [intOf]; omega
                            · go_wp2_with fail
                              go_region
                              all_goals go_wp2
                              go_roundw
                              case rel => exact ⟨m + 1 + 1, swp U2 (m + 1) m, by go_num, by omega, by omega, hide (xS.out.swap (by omega) (by omega) HY.out HX.out).drew, hide (by
                                have := shiftUp_go ltInt b (m + 1) U2 hj (by simp only [Nat.add_sub_cancel]; rw [← HX.out, ← HY.out]; exact hl)
                                rw [← hV.out, this]; rfl)⟩
                              case measure => simp [intOf]; omega
                          · have r1 : decide ((j : Int) < (b : Int)) = false := decide_eq_false (by omega)
                            have eV : Hid (partialIns ltInt a b (5 - (s + 1)) (k + 1) U2 = Sort.partialInsertionSort ltInt d a b) := hide (by rw [← eU.out, ← hV.out, shiftUp_stop ltInt b j U2 (Or.inl hj)])
                            go_wp2
                            go_roundw
                            case rel => exact ⟨k + 1, s + 1, _, rfl, by go_num, by omega, by omega, by omega, hU, eV⟩
                            case measure => simp [intOf]; omega
                      · have q9 : decide ((2 : Int) ≤ (b : Int) - ((k : Int) + 1)) = false := decide_eq_false (by omega)
                        have eU : Hid (partialIns ltInt a b (5 - (s + 1)) (k + 1) U = Sort.partialInsertionSort ltInt d a b) := hide (by rw [← eE.out, fixUp_no hu])
                        go_wp2
                        go_roundw
                        case rel => exact ⟨k + 1, s + 1, _, rfl, by go_num, by omega, by omega, by omega, xS, eU⟩
                        case measure => simp [intOf]; omega
                    · go_wp2_with fail
                      go_region
                      all_goals go_wp2
                      go_roundw
                      case rel => exact ⟨m, swp U (m + 1) m, rfl, by omega, hide (xS.out.swap (by omega) (by omega) HY.out HX.out).drew, hide (by
                        have := shiftDown_go ltInt (m + 1) U hj (by simp only [Nat.add_sub_cancel]; rw [← HX.out, ← HY.out]; exact hl)
                        rw [← hV.out, this]; rfl)⟩
                      case measure => simp [intOf]
                  · obtain rfl : j = 0 := by omega
                    have eE : Hid (partialIns ltInt a b (5 - (s + 1)) (k + 1) (fixUp ltInt b (k + 1) U) = Sort.partialInsertionSort ltInt d a b) := hide (by rw [← eD.out, ← hV.out, shiftDown_stop ltInt 0 U (Or.inl rfl)])
                    clear hV eD
                    by_cases hu : b - (k + 1) ≥ 2
                    · have q9 : decide ((2 : Int) ≤ (b : Int) - ((k : Int) + 1)) = true := decide_eq_true (by omega)
                      have eU : Hid (partialIns ltInt a b (5 - (s + 1)) (k + 1) (shiftUp ltInt b (k + 1 + 1) U) = Sort.partialInsertionSort ltInt d a b) := hide (by rw [← eE.out, fixUp_yes hu])
                      go_wp2_with fail
                      go_loopw [10] (fun vj wr => ∃ (j : Nat) (U2 : Array Int), vj = .int .i64 j ∧ k + 1 < j ∧ j ≤ b ∧ Hid (St w wr g cap n tl U2) ∧ Hid (shiftUp ltInt b j U2 = shiftUp ltInt b (k + 1 + 1) U)) (fun vj _ => b - (intOf vj).toNat)
                      case atStart => exact ⟨k + 1 + 1, U, by go_num, by omega, by omega, hU, rfl⟩
                      case round =>
                        clear hU
                        obtain ⟨j, U2, rfl, j1, j2, hU, hV⟩ := hrel
                        by_cases hj : j < b
                        · obtain ⟨m, rfl⟩ : ∃ m, j = m + 1 := ⟨j - 1, by omega⟩
                          obtain ⟨x, hx⟩ : ∃ x, x = U2[m + 1]! := ⟨_, rfl⟩
                          obtain ⟨y, hy⟩ : ∃ y, y = U2[m]! := ⟨_, rfl⟩
                          have HX := hide hx
                          have HY := hide hy
                          have c1 : wr.cell? ⟨g, m + 1, none⟩ = some (.int .u64 x) := by rw [hx]; exact hU.out.cell (by omega)
                          have c0 : wr.cell? ⟨g, m, none⟩ = some (.int .u64 y) := by rw [hy]; exact hU.out.cell (by omega)
                          clear hx hy
                          have r1 : decide ((m : Int) + 1 < (b : Int)) = true := decide_eq_true (by omega)
                          have r2 : (0 : Int) ≤ (m : Int) + 1 := by omega
                          have r3 : (m : Int) + 1 < n := by omega
                          have r4 : (0 : Int) ≤ (m : Int) := by omega
                          have r5 : (m : Int) < n := by omega
                          go_wp2_with fail
                          go_quiet ((go_at_call 22; refine Calls.quiet_of_same (less22 _ _ _)))
                          have xS := hide (hU.out.drewN nq)
                          have c1' : (wr.drewN nq).cell? ⟨g, m + 1, none⟩ = some (.int .u64 x) := c1
                          have c0' : (wr.drewN nq).cell? ⟨g, m, none⟩ = some (.int .u64 y) := c0
                          generalize hwq : wr.drewN nq = wq at xS c1' c0' ⊢
                          clear c1 c0 hwq hU
                          have f1 := xS.out.frozen (m + 1)
                          have f0 := xS.out.frozen m
                          rcases hl : ltInt x y with _ | _
                          · have eV : Hid (partialIns ltInt a b (5 - (s + 1)) (k + 1) U2 = Sort.partialInsertionSort ltInt d a b) := hide (by rw [← eU.out, ← hV.out, shiftUp_stop ltInt b (m + 1) U2 (Or.inr (by simp only [Nat.add_sub_cancel]; rw [← HX.out, ← HY.out]; exact hl))])
                            go_wp2
                            go_roundw
                            case rel => exact ⟨k + 1, s + 1, _, rfl, by go_num, by omega, by omega, by omega, xS, eV⟩
                            case measure => simp [intOf]; omega
                          · go_wp2_with fail
                            go_region
                            all_goals go_wp2
                            go_roundw
                            case rel => exact ⟨m + 1 + 1, swp U2 (m + 1) m, by go_num, by omega, by omega, hide (xS.out.swap (by omega) (by omega) HY.out HX.out).drew, hide (by
                              have := shiftUp_go ltInt b (m + 1) U2 hj (by simp only [Nat.add_sub_cancel]; rw [← HX.out, ← HY.out]; exact hl)
                              rw [← hV.out, this]; rfl)⟩
                            case measure => simp [intOf]; omega
                        · have r1 : decide ((j : Int) < (b : Int)) = false := decide_eq_false (by omega)
                          have eV : Hid (partialIns ltInt a b (5 - (s + 1)) (k + 1) U2 = Sort.partialInsertionSort ltInt d a b) := hide (by rw [← eU.out, ← hV.out, shiftUp_stop ltInt b j U2 (Or.inl hj)])
                          go_wp2
                          go_roundw
                          case rel => exact ⟨k + 1, s + 1, _, rfl, by go_num, by omega, by omega, by omega, hU, eV⟩
                          case measure => simp [intOf]; omega
                    · have q9 : decide ((2 : Int) ≤ (b : Int) - ((k : Int) + 1)) = false := decide_eq_false (by omega)
                      have eU : Hid (partialIns ltInt a b (5 - (s + 1)) (k + 1) U = Sort.partialInsertionSort ltInt d a b) := hide (by rw [← eE.out, fixUp_no hu])
                      go_wp2
                      go_roundw
                      case rel => exact ⟨k + 1, s + 1, _, rfl, by go_num, by omega, by omega, by omega, hU, eU⟩
                      case measure => simp [intOf]; omega
              · have q8 : decide ((2 : Int) ≤ (k : Int) + 1 - (a : Int)) = false := decide_eq_false (by omega)
                by_cases hu : b - (k + 1) ≥ 2
                · have q9 : decide ((2 : Int) ≤ (b : Int) - ((k : Int) + 1)) = true := decide_eq_true (by omega)
                  have f1 := tS.out.frozen (k + 1)
                  have f0 := tS.out.frozen k
                  go_wp2_with fail
                  go_region
                  all_goals go_wp2_with fail
                  have zS : Hid (St w ((wq.setCell ⟨g, k + 1, none⟩ (.int .u64 y)).setCell ⟨g, k, none⟩ (.int .u64 x)).drew g cap n tl (swp D (k + 1) k)) := hide (tS.out.swap (by omega) (by omega) HY.out HX.out).drew
                  generalize hwz : ((wq.setCell ⟨g, k + 1, none⟩ (.int .u64 y)).setCell ⟨g, k, none⟩ (.int .u64 x)).drew = wz at zS ⊢
                  generalize hD1 : swp D (k + 1) k = D1 at zS e2
                  clear c1' c0' f1 f0 hwz tS HX HY hl hK hKK hO hD1
                  have eE : Hid (partialIns ltInt a b (5 - (s + 1)) (k + 1) (fixUp ltInt b (k + 1) D1) = Sort.partialInsertionSort ltInt d a b) := hide (by rw [← e2.out, fixDown_no hd])
                  clear e2
                  have eU : Hid (partialIns ltInt a b (5 - (s + 1)) (k + 1) (shiftUp ltInt b (k + 1 + 1) D1) = Sort.partialInsertionSort ltInt d a b) := hide (by rw [← eE.out, fixUp_yes hu])
                  go_wp2_with fail
                  go_loopw [10] (fun vj wr => ∃ (j : Nat) (U2 : Array Int), vj = .int .i64 j ∧ k + 1 < j ∧ j ≤ b ∧ Hid (St w wr g cap n tl U2) ∧ Hid (shiftUp ltInt b j U2 = shiftUp ltInt b (k + 1 + 1) D1)) (fun vj _ => b - (intOf vj).toNat)
                  case atStart => exact ⟨k + 1 + 1, D1, by go_num, by omega, by omega, zS, rfl⟩
                  case round =>
                    clear zS
                    obtain ⟨j, U2, rfl, j1, j2, hU, hV⟩ := hrel
                    by_cases hj : j < b
                    · obtain ⟨m, rfl⟩ : ∃ m, j = m + 1 := ⟨j - 1, by omega⟩
                      obtain ⟨x, hx⟩ : ∃ x, x = U2[m + 1]! := ⟨_, rfl⟩
                      obtain ⟨y, hy⟩ : ∃ y, y = U2[m]! := ⟨_, rfl⟩
                      have HX := hide hx
                      have HY := hide hy
                      have c1 : wr.cell? ⟨g, m + 1, none⟩ = some (.int .u64 x) := by rw [hx]; exact hU.out.cell (by omega)
                      have c0 : wr.cell? ⟨g, m, none⟩ = some (.int .u64 y) := by rw [hy]; exact hU.out.cell (by omega)
                      clear hx hy
                      have r1 : decide ((m : Int) + 1 < (b : Int)) = true := decide_eq_true (by omega)
                      have r2 : (0 : Int) ≤ (m : Int) + 1 := by omega
                      have r3 : (m : Int) + 1 < n := by omega
                      have r4 : (0 : Int) ≤ (m : Int) := by omega
                      have r5 : (m : Int) < n := by omega
                      go_wp2_with fail
                      go_quiet ((go_at_call 22; refine Calls.quiet_of_same (less22 _ _ _)))
                      have xS := hide (hU.out.drewN nq)
                      have c1' : (wr.drewN nq).cell? ⟨g, m + 1, none⟩ = some (.int .u64 x) := c1
                      have c0' : (wr.drewN nq).cell? ⟨g, m, none⟩ = some (.int .u64 y) := c0
                      generalize hwq : wr.drewN nq = wq at xS c1' c0' ⊢
                      clear c1 c0 hwq hU
                      have f1 := xS.out.frozen (m + 1)
                      have f0 := xS.out.frozen m
                      rcases hl : ltInt x y with _ | _
                      · have eV : Hid (partialIns ltInt a b (5 - (s + 1)) (k + 1) U2 = Sort.partialInsertionSort ltInt d a b) := hide (by rw [← eU.out, ← hV.out, shiftUp_stop ltInt b (m + 1) U2 (Or.inr (by simp only [Nat.add_sub_cancel]; rw [← HX.out, ← HY.out]; exact hl))])
                        go_wp2
                        go_roundw
                        case rel => exact ⟨k + 1, s + 1, _, rfl, by go_num, by omega, by omega, by omega, xS, eV⟩
                        case measure => simp [intOf]; omega
                      · go_wp2_with fail
                        go_region
                        all_goals go_wp2
                        go_roundw
                        case rel => exact ⟨m + 1 + 1, swp U2 (m + 1) m, by go_num, by omega, by omega, hide (xS.out.swap (by omega) (by omega) HY.out HX.out).drew, hide (by
                          have := shiftUp_go ltInt b (m + 1) U2 hj (by simp only [Nat.add_sub_cancel]; rw [← HX.out, ← HY.out]; exact hl)
                          rw [← hV.out, this]; rfl)⟩
                        case measure => simp [intOf]; omega
                    · have r1 : decide ((j : Int) < (b : Int)) = false := decide_eq_false (by omega)
                      have eV : Hid (partialIns ltInt a b (5 - (s + 1)) (k + 1) U2 = Sort.partialInsertionSort ltInt d a b) := hide (by rw [← eU.out, ← hV.out, shiftUp_stop ltInt b j U2 (Or.inl hj)])
                      go_wp2
                      go_roundw
                      case rel => exact ⟨k + 1, s + 1, _, rfl, by go_num, by omega, by omega, by omega, hU, eV⟩
                      case measure => simp [intOf]; omega
                · exact absurd (by omega : b - a < 50) h50
        · have hib : i = b := by omega
          subst hib
          have q1 : decide ((i : Int) < (i : Int)) = false := decide_eq_false (by omega)
          go_wp2
          go_quiet (fail)
          go_wp2
          go_ret
          have e1 := pi_true ltInt a i s i0 D (by omega) (by rw [hK.out]; exact scanSorted_stop ltInt D i i (Or.inl hlt))
          exact ⟨by rw [← hO.out, e1]; rfl, by rw [← hO.out, e1]; exact hS.out.drewN _⟩

end Go.Proofs.Ybulkdtni.lawS6014CWhole
