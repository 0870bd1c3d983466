/-
  slices.BinarySearch at uint64; slices.Equal at uint64 and int32 on equal contents.
-/
import Derived.Test.YbulkdtniSt
namespace Go.Proofs.Ybulkdtni.lawS6014CWhole
open Go.RowKit Go.Proofs.Ybulkdtni.Own
open Go.Sort (ltInt)

/-- What is known of a slice of integers. -/
def Arr (w : World) (a : Option Addr) (n : Nat) (k : IntKind) (f : Nat → Int) : Prop :=
  ∀ j, j < n → ∃ b off, a = some ⟨b, off, none⟩ ∧ w.cell? ⟨b, off + j, none⟩ = some (.int k (f j))

theorem Arr.drewN {w : World} {a : Option Addr} {n : Nat} {k : IntKind} {f : Nat → Int} (h : Arr w a n k f) (q : Nat) : Arr (w.drewN q) a n k f := h

theorem nan23 (x : Int) (w : World) : Calls Yba.prog 23 #[.int .u64 x] w fun e w' => e = .returned (.bool false) ∧ w' = w := by
  go_enter Yba.func23, Yba.ntmps23
  go_wp2
  go_ret
  exact ⟨by simp, rfl⟩

set_option maxHeartbeats 2000000 in
/-- slices.BinarySearch at uint64: the place is the number of elements less than x. -/
theorem bs10 (w : World) (a : Option Addr) (n c : Nat) (f : Nat → Int) (x : Int) (p : Nat) (hA : Hid (Arr w a n .u64 f)) (hn : n ≤ 1048576) (hp : p < n) (hlo : Hid (∀ t, t < p → f t < x)) (hhi : Hid (∀ t, p ≤ t → t < n → x ≤ f t)) (heq : f p = x) :
    Calls Yba.prog 10 #[.slice a n c, .int .u64 x] w fun e w' => e = .returned (.tuple #[.int .i64 p, .bool true]) ∧ w' = w := by
  go_enter Yba.func10, Yba.ntmps10
  go_wp2_with fail
  go_loop [7, 8, 9] (fun vi vj _ => ∃ i j : Nat, vi = .int .i64 i ∧ vj = .int .i64 j ∧ i ≤ p ∧ p ≤ j ∧ j ≤ n) (fun vi vj _ => ((intOf vj) - (intOf vi)).toNat)
  case atStart => exact ⟨0, n, by simp, rfl, by omega, by omega, Nat.le_refl _⟩
  case round =>
    obtain ⟨i, j, rfl, rfl, hi, hj, hjn⟩ := hrel
    by_cases hij : i < j
    · obtain ⟨h, hh⟩ : ∃ h : Nat, h = (i + j) / 2 := ⟨_, rfl⟩
      have h1 : i ≤ h := by omega
      have h2 : h < j := by omega
      have e1 : ((i : Int) + j) / 2 = (h : Int) := by omega
      have HH := hide hh
      clear hh
      obtain ⟨b, off, rfl, hc⟩ := hA.out h (by omega)
      have q1 : (h : Int) < n := by omega
      go_wp2_with fail
      refine (less22 _ _ _).mono ?_
      rintro e w1 ⟨rfl, rfl⟩
      rcases hl : ltInt (f h) x with _ | _
      · have hge : ¬ f h < x := by simpa [ltInt] using hl
        have hph : p ≤ h := by
          rcases Nat.lt_or_ge h p with k | k
          · exact absurd (hlo.out h k) hge
          · exact k
        go_wp2
        go_round
        case rel => exact ⟨i, h, rfl, rfl, hi, hph, by omega⟩
        case measure => simp [intOf]; omega
      · have hlt : f h < x := by simpa [ltInt] using hl
        have hph : h < p := by
          rcases Nat.lt_or_ge h p with k | k
          · exact k
          · have := hhi.out h k (by omega); omega
        go_wp2
        go_round
        case rel => exact ⟨h + 1, j, by go_num, rfl, by omega, hj, hjn⟩
        case measure => simp [intOf]; omega
    · obtain rfl : i = p := by omega
      obtain ⟨b, off, rfl, hc⟩ := hA.out i hp
      have q1 : (i : Int) < n := by omega
      have q2 : decide ((i : Int) < (n : Int)) = true := decide_eq_true (by omega)
      rw [heq] at hc
      go_wp2
      go_ret2
      exact ⟨rfl, rfl⟩

set_option maxHeartbeats 1000000 in
/-- slices.Equal (function 11) of two slices that hold the same. -/
theorem equal11 (w : World) (a b : Option Addr) (n c c' : Nat) (f : Nat → Int) (hA : Hid (Arr w a n .u64 f)) (hB : Hid (Arr w b n .u64 f)) (hn : n ≤ 1048576) :
    Calls Yba.prog 11 #[.slice a n c, .slice b n c'] w fun e w' => e = .returned (.bool true) ∧ ∃ q, w' = w.drewN q := by
  go_enter Yba.func11, Yba.ntmps11
  go_wp2_with fail
  go_loopw [13, 5] (fun vi _ wr => ∃ i q : Nat, vi = .int .i64 i ∧ i ≤ n ∧ Hid (wr = w.drewN q)) (fun vi _ _ => n - (intOf vi).toNat)
  case atStart => exact ⟨0, 0, by simp, by omega, rfl⟩
  case round =>
    obtain ⟨i, q, rfl, hi, hw⟩ := hrel
    by_cases hlt : i < n
    · obtain ⟨b1, o1, rfl, hc⟩ := hA.out i hlt
      obtain ⟨b2, o2, rfl, hc'⟩ := hB.out i hlt
      have d1 : wr.cell? ⟨b1, o1 + i, none⟩ = some (.int .u64 (f i)) := by rw [hw.out]; exact hc
      have d2 : wr.cell? ⟨b2, o2 + i, none⟩ = some (.int .u64 (f i)) := by rw [hw.out]; exact hc'
      clear hc hc'
      have q1 : (0 : Int) ≤ i := by omega
      have q2 : (i : Int) < n := by omega
      go_wp2_with fail
      go_quiet (fail)
      go_wp2
      go_roundw
      case rel => exact ⟨i + 1, q + nq, by go_num, by omega, hide (by rw [hw.out, World.drewN_drewN])⟩
      case measure => simp [intOf]; omega
    · go_wp2
      go_ret
      exact ⟨rfl, q, hw.out⟩

set_option maxHeartbeats 1000000 in
/-- slices.Equal (function 12) of two slices that hold the same. -/
theorem equal12 (w : World) (a b : Option Addr) (n c c' : Nat) (f : Nat → Int) (hA : Hid (Arr w a n .i32 f)) (hB : Hid (Arr w b n .i32 f)) (hn : n ≤ 1048576) :
    Calls Yba.prog 12 #[.slice a n c, .slice b n c'] w fun e w' => e = .returned (.bool true) ∧ ∃ q, w' = w.drewN q := by
  go_enter Yba.func12, Yba.ntmps12
  go_wp2_with fail
  go_loopw [13, 5] (fun vi _ wr => ∃ i q : Nat, vi = .int .i64 i ∧ i ≤ n ∧ Hid (wr = w.drewN q)) (fun vi _ _ => n - (intOf vi).toNat)
  case atStart => exact ⟨0, 0, by simp, by omega, rfl⟩
  case round =>
    obtain ⟨i, q, rfl, hi, hw⟩ := hrel
    by_cases hlt : i < n
    · obtain ⟨b1, o1, rfl, hc⟩ := hA.out i hlt
      obtain ⟨b2, o2, rfl, hc'⟩ := hB.out i hlt
      have d1 : wr.cell? ⟨b1, o1 + i, none⟩ = some (.int .i32 (f i)) := by rw [hw.out]; exact hc
      have d2 : wr.cell? ⟨b2, o2 + i, none⟩ = some (.int .i32 (f i)) := by rw [hw.out]; exact hc'
      clear hc hc'
      have q1 : (0 : Int) ≤ i := by omega
      have q2 : (i : Int) < n := by omega
      go_wp2_with fail
      go_quiet (fail)
      go_wp2
      go_roundw
      case rel => exact ⟨i + 1, q + nq, by go_num, by omega, hide (by rw [hw.out, World.drewN_drewN])⟩
      case measure => simp [intOf]; omega
    · go_wp2
      go_ret
      exact ⟨rfl, q, hw.out⟩

end Go.Proofs.Ybulkdtni.lawS6014CWhole
