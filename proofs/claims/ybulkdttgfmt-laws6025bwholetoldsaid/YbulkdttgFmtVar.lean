/-
  A varint's bytes: encoding/binary.Uvarint and the law's own reader, case by case.
-/
import Derived.Test.YbulkdttgFmtCalls
namespace Go.Proofs.YbulkdttgFmt.lawS6025BWhole
open Go.RowKit Go.Proofs.YbulkdttgFmt.Own

/-- What is known of a slice of bytes: its cells hold 'f j'. -/
def Arg (w : World) (a : Option Addr) (len : Nat) (f : Nat → Int) : Prop :=
  ∀ j, j < len → ∃ b off, a = some ⟨b, off, none⟩ ∧ b < w.heap.size ∧ w.cell? ⟨b, off + j, none⟩ = some (.int .u8 (f j))

/-- The value's low groups, the first k bytes read. -/
def acc (f : Nat → Int) : Nat → Int
  | 0 => 0
  | k + 1 => bits BinOp.or IntKind.u64 (acc f k) (IntKind.u64.wrap (IntKind.u64.wrap (bits BinOp.and IntKind.u8 (f k) 127) * 2 ^ (7 * k)))

/-- The value of a varint whose last byte is number k. -/
def val (f : Nat → Int) (k : Nat) : Int := bits BinOp.or IntKind.u64 (acc f k) (IntKind.u64.wrap (f k * 2 ^ (7 * k)))

theorem val9 (f : Nat → Int) (h0 : 0 ≤ f 9) (h1 : f 9 ≤ 1) : val f 9 = bits BinOp.or IntKind.u64 (acc f 9) (f 9 * 9223372036854775808) := by
  unfold val
  congr 1
  rcases (by omega : f 9 = 0 ∨ f 9 = 1) with h | h <;> rw [h] <;> rfl

theorem val0 (f : Nat → Int) (h0 : 0 ≤ f 0) (h1 : f 0 < 128) : val f 0 = bits BinOp.or IntKind.u64 (acc f 0) (f 0) := by
  unfold val
  congr 1
  simp [IntKind.wrap, IntKind.bits, IntKind.signed]
  omega

/-- The bytes f 0, f 1 .. end a varint at number k. -/
def Ends (f : Nat → Int) (n k : Nat) : Prop := k < n ∧ k ≤ 9 ∧ f k < 128 ∧ ∀ j, j < k → 128 ≤ f j
/-- No byte among the first ten ends one. -/
def Open (f : Nat → Int) (n : Nat) : Prop := ∀ j, j < n → j < 10 → 128 ≤ f j

theorem ends_or_open (f : Nat → Int) (n : Nat) : (∃ k, Ends f n k) ∨ Open f n := by
  have h : ∀ m, m ≤ 10 → (∃ k, Ends f n k) ∨ ∀ j, j < n → j < m → 128 ≤ f j := by
    intro m
    induction m with
    | zero => intro _; exact .inr (fun j _ h => by omega)
    | succ m ih =>
      intro hm
      rcases ih (by omega) with h | h
      · exact .inl h
      · by_cases hn : m < n
        · by_cases hf : f m < 128
          · exact .inl ⟨m, hn, by omega, hf, fun j hj => h j (by omega) hj⟩
          · refine .inr (fun j h1 h2 => ?_)
            by_cases e : j = m
            · subst e; omega
            · exact h j h1 (by omega)
        · exact .inr (fun j h1 h2 => h j h1 (by omega))
  exact h 10 (Nat.le_refl _)

set_option maxHeartbeats 1000000 in
theorem uv_good (a : Option Addr) (n c : Nat) (f : Nat → Int) (w : World) (k : Nat) (hn : n ≤ 1048576) (hb : Hid (∀ j, j < n → 0 ≤ f j ∧ f j ≤ 255)) (hA : Hid (Arg w a n f)) (hkn : k < n) (hk9 : k ≤ 9) (hfk : f k < 128) (hall : Hid (∀ j, j < k → 128 ≤ f j)) (hok : k = 9 → f k ≤ 1) :
    Calls Ybaf.prog 22 #[.slice a n c] w fun e w' => e = .returned (.tuple #[.int .u64 (val f k), .int .i64 ((k : Int) + 1)]) ∧ w' = w := by
  go_enter Ybaf.func22, Ybaf.ntmps22
  go_wp2_with fail
  go_loop [10, 4, 5] (fun i x s => ∃ m : Nat, m ≤ k ∧ i = .int .i64 m ∧ x = .int .u64 (acc f m) ∧ s = .int .u64 (7 * (m : Int))) (fun i _ _ => k - (intOf i).toNat)
  case atStart => exact ⟨0, by omega, by simp, by simp [acc], by simp⟩
  case round =>
    obtain ⟨m, hm, rfl, rfl, rfl⟩ := hrel
    obtain ⟨b, off, rfl, hbw, hc⟩ := hA.out m (by omega)
    obtain ⟨b0, b1⟩ := hb.out m (by omega)
    have h10' : ((m : Int) == 10) = false := by simpa using (by omega : ¬ (m : Int) = 10)
    by_cases hmk : m = k
    · subst hmk
      by_cases h9 : m = 9
      · have hok' := hok h9
        clear hok h10'
        subst h9
        have hv := val9 f b0 hok'
        go_wp2
        go_ret2
        exact ⟨rfl, rfl⟩
      · have h9' : ((m : Int) == 9) = false := by simpa using (by omega : ¬ (m : Int) = 9)
        clear hok
        go_wp2
        go_ret2
        exact ⟨rfl, rfl⟩
    · have hge := hall.out m (by omega)
      go_wp2
      go_round
      case rel => exact ⟨m + 1, by omega, by go_num, rfl, by go_num⟩
      case measure => simp [intOf]; omega

set_option maxHeartbeats 1000000 in
theorem uv_over (a : Option Addr) (n c : Nat) (f : Nat → Int) (w : World) (hn : n ≤ 1048576) (hb : Hid (∀ j, j < n → 0 ≤ f j ∧ f j ≤ 255)) (hA : Hid (Arg w a n f)) (hkn : 9 < n) (hfk : f 9 < 128) (hall : Hid (∀ j, j < 9 → 128 ≤ f j)) (hov : 1 < f 9) :
    Calls Ybaf.prog 22 #[.slice a n c] w fun e w' => e = .returned (.tuple #[.int .u64 0, .int .i64 (-10)]) ∧ w' = w := by
  go_enter Ybaf.func22, Ybaf.ntmps22
  go_wp2_with fail
  go_loop [10, 4, 5] (fun i x s => ∃ m : Nat, m ≤ 9 ∧ i = .int .i64 m ∧ x = .int .u64 (acc f m) ∧ s = .int .u64 (7 * (m : Int))) (fun i _ _ => 9 - (intOf i).toNat)
  case atStart => exact ⟨0, by omega, by simp, by simp [acc], by simp⟩
  case round =>
    obtain ⟨m, hm, rfl, rfl, rfl⟩ := hrel
    obtain ⟨b, off, rfl, hbw, hc⟩ := hA.out m (by omega)
    obtain ⟨b0, b1⟩ := hb.out m (by omega)
    have h10' : ((m : Int) == 10) = false := by simpa using (by omega : ¬ (m : Int) = 10)
    by_cases hmk : m = 9
    · subst hmk
      go_wp2
      go_ret2
      exact ⟨by simp, rfl⟩
    · have hge := hall.out m (by omega)
      go_wp2
      go_round
      case rel => exact ⟨m + 1, by omega, by go_num, rfl, by go_num⟩
      case measure => simp [intOf]; omega

set_option maxHeartbeats 1000000 in
theorem uv_open (a : Option Addr) (n c : Nat) (f : Nat → Int) (w : World) (hn : n ≤ 1048576) (hb : Hid (∀ j, j < n → 0 ≤ f j ∧ f j ≤ 255)) (hA : Hid (Arg w a n f)) (hall : Hid (Open f n)) :
    Calls Ybaf.prog 22 #[.slice a n c] w fun e w' => e = .returned (.tuple #[.int .u64 0, .int .i64 (if n ≤ 10 then 0 else -11)]) ∧ w' = w := by
  go_enter Ybaf.func22, Ybaf.ntmps22
  go_wp2_with fail
  go_loop [10, 4, 5] (fun i x s => ∃ m : Nat, m ≤ n ∧ m ≤ 10 ∧ i = .int .i64 m ∧ x = .int .u64 (acc f m) ∧ s = .int .u64 (7 * (m : Int))) (fun i _ _ => 10 - (intOf i).toNat)
  case atStart => exact ⟨0, by omega, by omega, by simp, by simp [acc], by simp⟩
  case round =>
    obtain ⟨m, hm, hm10, rfl, rfl, rfl⟩ := hrel
    by_cases hlt : m < n
    · obtain ⟨b, off, rfl, hbw, hc⟩ := hA.out m (by omega)
      obtain ⟨b0, b1⟩ := hb.out m (by omega)
      by_cases hmk : m = 10
      · subst hmk
        go_wp2
        go_ret2
        exact ⟨rfl, rfl⟩
      · have h10' : ((m : Int) == 10) = false := by simpa using (by omega : ¬ (m : Int) = 10)
        have hge := hall.out m (by omega) (by omega)
        go_wp2
        go_round
        case rel => exact ⟨m + 1, by omega, by omega, by go_num, rfl, by go_num⟩
        case measure => simp [intOf]; omega
    · have hmn : m = n := by omega
      subst hmn
      go_wp2
      go_ret2
      exact ⟨rfl, rfl⟩

set_option maxHeartbeats 1000000 in
theorem zz_good (a : Option Addr) (n c : Nat) (f : Nat → Int) (w : World) (k : Nat) (hn : n ≤ 1048576) (hb : Hid (∀ j, j < n → 0 ≤ f j ∧ f j ≤ 255)) (hA : Hid (Arg w a n f)) (hkn : k < n) (hk9 : k ≤ 9) (hfk : f k < 128) (hall : Hid (∀ j, j < k → 128 ≤ f j)) (hok : k = 9 → f k ≤ 1) (hnz : k = 0 ∨ f k ≠ 0) :
    Calls Ybaf.prog 8 #[.slice a n c] w fun e w' => e = .returned (.tuple #[.int .u64 (val f k), .int .i64 ((k : Int) + 1), .bool true]) ∧ w' = w := by
  go_enter Ybaf.func8, Ybaf.ntmps8
  go_wp2_with fail
  go_loop [6, 5] (fun i x => ∃ m : Nat, m ≤ k ∧ i = .int .i64 m ∧ x = .int .u64 (acc f m)) (fun i _ => k - (intOf i).toNat)
  case atStart => exact ⟨0, by omega, by simp, by simp [acc]⟩
  case round =>
    obtain ⟨m, hm, rfl, rfl⟩ := hrel
    obtain ⟨b, off, rfl, hbw, hc⟩ := hA.out m (by omega)
    obtain ⟨b0, b1⟩ := hb.out m (by omega)
    have h10' : ((m : Int) == 10) = false := by simpa using (by omega : ¬ (m : Int) = 10)
    by_cases hmk : m = k
    · subst hmk
      by_cases h9 : m = 9
      · have hok' := hok h9
        clear hok h10'
        subst h9
        have hv := val9 f b0 hok'
        have hz : (f 9 == 0) = false := by simpa using (by omega : ¬ f 9 = 0)
        go_wp2
        go_ret3
        exact ⟨rfl, rfl⟩
      · have h9' : ((m : Int) == 9) = false := by simpa using (by omega : ¬ (m : Int) = 9)
        clear hok
        by_cases h0 : m = 0
        · subst h0
          rw [Nat.add_zero] at hc; clear h10' h9'
          have hv := val0 f b0 hfk
          go_wp2
          go_ret3
          exact ⟨rfl, rfl⟩
        · have hz : (f m == 0) = false := by simpa using (by omega : ¬ f m = 0)
          go_wp2
          go_ret3
          exact ⟨rfl, rfl⟩
    · have hge := hall.out m (by omega)
      go_wp2
      go_round
      case rel => exact ⟨m + 1, by omega, by go_num, rfl⟩
      case measure => simp [intOf]; omega

set_option maxHeartbeats 1000000 in
theorem zz_bad (a : Option Addr) (n c : Nat) (f : Nat → Int) (w : World) (k : Nat) (hn : n ≤ 1048576) (hb : Hid (∀ j, j < n → 0 ≤ f j ∧ f j ≤ 255)) (hA : Hid (Arg w a n f)) (hkn : k < n) (hk9 : k ≤ 9) (hfk : f k < 128) (hall : Hid (∀ j, j < k → 128 ≤ f j)) (hbad : (k = 9 ∧ 1 < f k) ∨ (0 < k ∧ f k = 0)) :
    Calls Ybaf.prog 8 #[.slice a n c] w fun e w' => e = .returned (.tuple #[.int .u64 0, .int .i64 0, .bool false]) ∧ w' = w := by
  go_enter Ybaf.func8, Ybaf.ntmps8
  go_wp2_with fail
  go_loop [6, 5] (fun i x => ∃ m : Nat, m ≤ k ∧ i = .int .i64 m ∧ x = .int .u64 (acc f m)) (fun i _ => k - (intOf i).toNat)
  case atStart => exact ⟨0, by omega, by simp, by simp [acc]⟩
  case round =>
    obtain ⟨m, hm, rfl, rfl⟩ := hrel
    obtain ⟨b, off, rfl, hbw, hc⟩ := hA.out m (by omega)
    obtain ⟨b0, b1⟩ := hb.out m (by omega)
    have h10' : ((m : Int) == 10) = false := by simpa using (by omega : ¬ (m : Int) = 10)
    by_cases hmk : m = k
    · subst hmk
      by_cases h9 : m = 9
      · clear h10'
        subst h9
        by_cases h1 : 1 < f 9
        · go_wp2
          go_ret3
          exact ⟨rfl, rfl⟩
        · have hz : (f 9 == 0) = true := by simpa using (by omega : f 9 = 0)
          go_wp2
          go_ret3
          exact ⟨rfl, rfl⟩
      · have h9' : ((m : Int) == 9) = false := by simpa using (by omega : ¬ (m : Int) = 9)
        have h0 : 0 < m := by omega
        have hz : (f m == 0) = true := by simpa using (by omega : f m = 0)
        clear hbad
        go_wp2
        go_ret3
        exact ⟨rfl, rfl⟩
    · have hge := hall.out m (by omega)
      go_wp2
      go_round
      case rel => exact ⟨m + 1, by omega, by go_num, rfl⟩
      case measure => simp [intOf]; omega

set_option maxHeartbeats 1000000 in
theorem zz_open (a : Option Addr) (n c : Nat) (f : Nat → Int) (w : World) (hn : n ≤ 1048576) (hb : Hid (∀ j, j < n → 0 ≤ f j ∧ f j ≤ 255)) (hA : Hid (Arg w a n f)) (hall : Hid (Open f n)) :
    Calls Ybaf.prog 8 #[.slice a n c] w fun e w' => e = .returned (.tuple #[.int .u64 0, .int .i64 0, .bool false]) ∧ w' = w := by
  go_enter Ybaf.func8, Ybaf.ntmps8
  go_wp2_with fail
  go_loop [6, 5] (fun i x => ∃ m : Nat, m ≤ n ∧ m ≤ 10 ∧ i = .int .i64 m ∧ x = .int .u64 (acc f m)) (fun i _ => 10 - (intOf i).toNat)
  case atStart => exact ⟨0, by omega, by omega, by simp, by simp [acc]⟩
  case round =>
    obtain ⟨m, hm, hm10, rfl, rfl⟩ := hrel
    by_cases hlt : m < n
    · obtain ⟨b, off, rfl, hbw, hc⟩ := hA.out m (by omega)
      obtain ⟨b0, b1⟩ := hb.out m (by omega)
      by_cases hmk : m = 10
      · subst hmk
        go_wp2
        go_ret3
        exact ⟨rfl, rfl⟩
      · have h10' : ((m : Int) == 10) = false := by simpa using (by omega : ¬ (m : Int) = 10)
        have hge := hall.out m (by omega) (by omega)
        go_wp2
        go_round
        case rel => exact ⟨m + 1, by omega, by omega, by go_num, rfl⟩
        case measure => simp [intOf]; omega
    · have hmn : m = n := by omega
      subst hmn
      go_wp2
      go_ret3
      exact ⟨rfl, rfl⟩

end Go.Proofs.YbulkdttgFmt.lawS6025BWhole
