import Derived.Test.YbulkdtniSt
namespace Go.Proofs.Ybulkdtni.lawS6014CWhole
open Go.RowKit Go.Proofs.Ybulkdtni.Own
open Go.Sort (swp ltInt insInner insOuter)

set_option maxHeartbeats 1000000 in
theorem ins30 (w : World) (g cap n c a b : Nat) (tl : Nat → Value) (d : Array Int) (h0 : St w w g cap n tl d) (hab : a ≤ b) (hb : b ≤ n) (hn : n ≤ 1048576) :
    Calls Yba.prog 30 #[.slice (some ⟨g, 0, none⟩) n c, .int .i64 a, .int .i64 b] w fun e w' => e = .returned (.tuple #[]) ∧ St w w' g cap n tl (Sort.insertionSort ltInt d a b) := by
  have H0 := hide h0
  clear h0
  go_enter Yba.func30, Yba.ntmps30
  go_wp2_with fail
  go_loopw [6] (fun vi wr => ∃ (i : Nat) (dk : Array Int), vi = .int .i64 i ∧ a < i ∧ i ≤ b + 1 ∧ Hid (St w wr g cap n tl dk) ∧ Hid (insOuter ltInt a b i dk = insOuter ltInt a b (a + 1) d)) (fun vi _ => b + 1 - (intOf vi).toNat)
  case atStart => exact ⟨a + 1, d, by go_num, by omega, by omega, H0, rfl⟩
  case round =>
    obtain ⟨i, dk, rfl, hai, hib, hS, hO⟩ := hrel
    by_cases hlt : i < b
    · go_wp2_with fail
      go_loopw [7] (fun vj wr2 => ∃ (j : Nat) (dj : Array Int), vj = .int .i64 j ∧ a ≤ j ∧ j ≤ i ∧ Hid (St w wr2 g cap n tl dj) ∧ Hid (insInner ltInt a j dj = insInner ltInt a i dk)) (fun vj _ => (intOf vj).toNat)
      case atStart => exact ⟨i, dk, rfl, by omega, Nat.le_refl _, hS, rfl⟩
      case round =>
        obtain ⟨j, dj, rfl, haj, hji, hSj, hI⟩ := hrel
        by_cases hja : a < j
        · obtain ⟨k, rfl⟩ : ∃ k, j = k + 1 := ⟨j - 1, by omega⟩
          obtain ⟨x, hx⟩ : ∃ x, x = dj[k + 1]! := ⟨_, rfl⟩
          obtain ⟨y, hy⟩ : ∃ y, y = dj[k]! := ⟨_, rfl⟩
          have c1 := hSj.out.cell (t := k + 1) (by omega)
          have c0 := hSj.out.cell (t := k) (by omega)
          rw [← hx] at c1
          rw [← hy] at c0
          have HX := hide hx
          have HY := hide hy
          clear hx hy
          have f1 := hSj.out.frozen (k + 1)
          have f0 := hSj.out.frozen k
          have q1 : decide ((a : Int) < (k : Int) + 1) = true := decide_eq_true (by omega)
          have q2 : (0 : Int) ≤ (k : Int) + 1 := by omega
          have q3 : (k : Int) + 1 < n := by omega
          have q4 : (0 : Int) ≤ (k : Int) := by omega
          have q5 : (k : Int) < n := by omega
          go_wp2
          go_quiet ((go_at_call 22; refine Calls.quiet_of_same (less22 _ _ _)))
          have hSq : Hid (St w (wr.drewN nq) g cap n tl dj) := hide (hSj.out.drewN nq)
          have c1' : (wr.drewN nq).cell? ⟨g, k + 1, none⟩ = some (.int .u64 x) := c1
          have c0' : (wr.drewN nq).cell? ⟨g, k, none⟩ = some (.int .u64 y) := c0
          have f1' : (wr.drewN nq).frozen? ⟨g, k + 1, none⟩ = false := f1
          have f0' : (wr.drewN nq).frozen? ⟨g, k, none⟩ = false := f0
          generalize hwq : wr.drewN nq = wq at hSq c1' c0' f1' f0' ⊢
          clear c1 c0 f1 f0 hwq hSj
          go_wp2
          · have hl : ltInt x y = true := by assumption
            go_region
            all_goals go_wp2
            go_roundw
            case rel => exact ⟨k, swp dj (k + 1) k, rfl, by omega, by omega, hide (hSq.out.swap (by omega) (by omega) HY.out HX.out).drew, hide (by
              have := insInner_go ltInt a (k + 1) dj hja (by simp only [Nat.add_sub_cancel]; rw [← HX.out, ← HY.out]; exact hl)
              rw [← hI.out, this]; rfl)⟩
            case measure => simp [intOf]
          · have hl : ltInt x y = false := by assumption
            go_roundw
            case rel => exact ⟨i + 1, dj, by go_num, by omega, by omega, hSq, hide (by
              rw [← hO.out, insOuter_go _ _ _ _ _ hlt, ← hI.out, insInner_stop _ _ _ _ (Or.inr (by simp only [Nat.add_sub_cancel]; rw [← HX.out, ← HY.out]; exact hl))])⟩
            case measure => simp [intOf]; omega
        · have q1 : decide ((a : Int) < (j : Int)) = false := decide_eq_false (by omega)
          go_wp2
          go_quiet (fail)
          go_wp2
          go_roundw
          case rel => exact ⟨i + 1, dj, by go_num, by omega, by omega, hide (hSj.out.drewN nq), hide (by
              rw [← hO.out, insOuter_go _ _ _ _ _ hlt, ← hI.out, insInner_stop _ _ _ _ (Or.inl (by omega))])⟩
          case measure => simp [intOf]; omega
    · go_wp2
      go_end0
      exact ⟨rfl, by unfold Sort.insertionSort; rw [← hO.out, insOuter_stop _ _ _ _ _ hlt]; exact hS.out⟩

end Go.Proofs.Ybulkdtni.lawS6014CWhole
