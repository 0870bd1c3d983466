import Derived.Test.YbulkdttgOwn
import Derived.Test.YbulkdttgRows
import Derived.Laws.CopyOwn
import Derived.WalkSpells
import Derived.Deep.QuietTactic
import Derived.BigQuiet
namespace Go.Proofs.Ybulkdttg.lawS6025AWhole
open Go.RowKit Go.Proofs.Ybulkdttg.Own

theorem info5 : (Yba.prog.info? 5).map (fun i => (i.zero, i.size, i.bytes)) = some (some (.int .u8 0), 1, 1) := by kernel_rfl
theorem size5 : (Yba.prog.info? 5).map (·.size) = some 1 := by kernel_rfl

theorem keep_nil (w : World) : Calls Yba.prog 4 #[.slice none 0 0] w fun e w' => e = .returned (.slice none 0 0) ∧ w' = w := by
  have hnil := fun w => Lib.run_eql_slice_nil (P := Yba.prog) w 22 5 none 0 0 0 0 Yba.underlying22
  go_enter Yba.func4, Yba.ntmps4
  go_wp2
  go_ret
  exact ⟨rfl, rfl⟩

theorem rowF_splice {w : World} {g n : Nat} {zs : List Int} (hn : zs.length = n) (h : w.heap[g]? = some (.cells (splice (List.replicate n (Value.int .u8 0)) 0 (zs.map (Value.int .u8))).toArray 5 (0, 0))) :
    RowF w g 5 n (fun j => .int .u8 (zs.getD j 0)) := by
  refine ⟨_, h, by rw [List.size_toArray, length_splice _ _ _ (by simp [hn])]; simp, fun j hj => ?_⟩
  simp [splice, hn, hj]

theorem keep_some (x : Addr) (len cap : Nat) (zs : List Int) (w : World) (hlen : len ≤ 1048576) (hz : zs.length = len)
    (hc : ∀ j a, zs[j]? = some a → w.cell? (x.add j) = some (.int .u8 a)) :
    Calls Yba.prog 4 #[.slice (some x) len cap] w fun e w' => ∃ g, e = .returned (.slice (some ⟨g, 0, none⟩) len len) ∧ g = w.heap.size ∧ RowF w' g 5 len (fun j => .int .u8 (zs.getD j 0)) ∧ Below g w w' := by
  have hnil := fun w => Lib.run_eql_slice_nil (P := Yba.prog) w 22 5 (some x) len cap 0 0 Yba.underlying22
  go_enter Yba.func4, Yba.ntmps4
  go_wp2_with (at_make; refine wpList_make_row rfl _ _ 22 rfl 5 (.int .u8 0) 1 Yba.underlying22 info5 rfl _ _ _ _ len rfl rfl rfl rfl (by omega) (by unfold maxLen; omega) ?_)
  intro g w1 hg hs hrow hb
  have hrep := hrow.rep
  have Hrep : Hid (w1.heap[g]? = some (.cells (List.replicate len (Value.int .u8 0)).toArray 5 (0, 0))) := hrep
  clear hrep
  go_wp2_with (refine wpList_copy_splice rfl (.tmp 9) (.tmp 10) 22 22 rfl 5 Yba.underlying22 size5 _ _ _ _ _ _ rfl rfl g 0 (List.replicate len (Value.int .u8 0)) 5 Hrep.out (zs.map (Value.int .u8)) (by simp [hz]) ?_ (by simp [hz]) (ints_oneCell _ _) g w hb (Nat.le_refl _) ?_)
  · intro _ j u hj
    have h0 := hc j u hj
    have := World.block_lt_of_cell? w _ h0
    rw [hb.cell (by have := hg.out; omega)]
    exact h0
  intro w2 h2 hb2
  go_wp2
  go_ret
  exact ⟨g, rfl, hg.out, rowF_splice hz h2.out, hb2⟩

theorem fill_step {wr : World} {g len k : Nat} {f : Nat → Int} {F : Nat → Int} (hR : RowF wr g 5 len (fun j => .int .u8 (if j < k then f j else F j))) (u : Value) (hu : u = .int .u8 (f k)) :
    RowF (wr.setCell ⟨g, k, none⟩ u) g 5 len (fun j => .int .u8 (if j < k + 1 then f j else F j)) :=
  hR.store k u (fun _ => by simp [hu]) (fun j _ hj => by
    by_cases h : j < k
    · rw [if_pos h, if_pos (by omega)]
    · rw [if_neg h, if_neg (by omega)])

/-- 'keep' of a slice that is not nil: a new row with the same bytes. -/
theorem keep_f (x : Addr) (len cap : Nat) (f : Nat → Int) (w : World) (hlen : len ≤ 1048576) (hc : ∀ j, j < len → w.cell? (x.add j) = some (.int .u8 (f j))) :
    Calls Yba.prog 4 #[.slice (some x) len cap] w fun e w' => ∃ g, e = .returned (.slice (some ⟨g, 0, none⟩) len len) ∧ g = w.heap.size ∧ RowF w' g 5 len (fun j => .int .u8 (f j)) ∧ Below g w w' := by
  refine (keep_some x len cap ((List.range len).map f) w hlen (by simp) ?_).mono ?_
  · intro j a hj
    have hl : j < len := by simpa using (List.getElem?_eq_some_iff.1 hj).1
    rw [hc j hl]
    simp [hl] at hj
    rw [hj]
  · rintro e w' ⟨g, rfl, hg, hr, hb⟩
    exact ⟨g, rfl, hg, hr.congr (fun j hj => by simp [hj]), hb⟩

/-- An argument's cell, in a later world: the address written out. -/
theorem cell_at {x : Addr} {len : Nat} {f : Nat → Int} {w wr : World} {k : Nat} (hk : k < len) (hc : ∀ j, j < len → w.cell? (x.add j) = some (.int .u8 (f j))) (hb : Below w.heap.size w wr) :
    ∃ b off, x = ⟨b, off, none⟩ ∧ b < w.heap.size ∧ wr.cell? ⟨b, off + k, none⟩ = some (.int .u8 (f k)) := by
  have h0 := hc k hk
  have h1 := hc 0 (by omega)
  have hsp : x.spot = none := by simpa [Addr.add] using World.cell?_spot h1
  obtain ⟨b, off, sp⟩ := x
  simp only at hsp
  subst hsp
  rw [Addr.add_lit] at h0
  have hb0 := World.block_lt_of_cell? w _ h0
  refine ⟨b, off, rfl, hb0, ?_⟩
  rw [hb.cell hb0]
  exact h0

set_option maxHeartbeats 1000000 in
theorem law_some (x : Addr) (len cap : Nat) (f : Nat → Int) (w : World) (hlen : len ≤ 1048576) (hc : ∀ j, j < len → w.cell? (x.add j) = some (.int .u8 (f j))) :
    Calls Yba.prog 3 #[.slice (some x) len cap] w fun e w' => e = .returned (.bool true) ∧ Below w.heap.size w w' := by
  have hnil := fun w => Lib.run_eql_slice_nil (P := Yba.prog) w 22 5 (some x) len cap 0 0 Yba.underlying22
  have hnil2 := fun w => run_neq_slice_nil_any (P := Yba.prog) w 22 5 (some x) len cap 0 0 Yba.underlying22
  have hd : decide ((1048576 : Int) < (len : Int)) = false := decide_eq_false (by omega)
  go_enter Yba.func3, Yba.ntmps3
  go_wp2_with (at_make; refine wpList_make_row rfl _ _ 22 rfl 5 (.int .u8 0) 1 Yba.underlying22 info5 rfl _ _ _ _ len rfl rfl rfl rfl (by omega) (by unfold maxLen; omega) ?_)
  intro g w1 hg hs hrow hb
  go_wp2_with fail
  have HC := hide hc
  clear hc
  go_loopw [4] (fun i wr => ∃ k : Nat, k ≤ len ∧ i = .int .i64 k ∧ RowF wr g 5 len (fun j => .int .u8 (if j < k then f j else 0)) ∧ Below g w wr) (fun i _ => len - (intOf i).toNat)
  case atStart => exact ⟨0, Nat.zero_le _, rfl, hrow.congr (fun j _ => by simp), hb⟩
  case round =>
    obtain ⟨k, hk, rfl, hR, hB⟩ := hrel
    by_cases hlt : k < len
    · obtain ⟨b, off, rfl, _, hcx⟩ := cell_at hlt (unhide HC) (hg.out ▸ hB)
      have hck := hR.cell hlt
      have hfk := hR.frozen k
      go_wp2
      go_roundw
      case rel => exact ⟨k + 1, by omega, by go_num, fill_step hR _ rfl, hB.setCell (Nat.le_refl _) _⟩
      case measure => simp [intOf]; omega
    · have hk' : k = len := by omega
      subst hk'
      have hR1 : RowF wr g 5 k (fun j => .int .u8 (f j)) := hR.congr (fun j hj => by rw [if_pos hj])
      have hgs : g < wr.heap.size := hR.lt
      clear hR
      go_wp2_with fail
      refine (keep_f x k cap f wr hlen ?_).mono ?_
      · intro j hj
        have h0 := unhide HC j hj
        rw [(hg.out ▸ hB : Below w.heap.size w wr).cell (World.block_lt_of_cell? w _ h0)]
        exact h0
      rintro e w2 ⟨g2, rfl, hg2, hr2, hb2⟩
      have HG2 : Hid (g2 = wr.heap.size) := hg2
      clear hg2
      have hlt2 : g < g2 := by have := HG2.out; omega
      have hr1 := hR1.below hb2 hlt2
      have hB2 : Below g w w2 := hB.trans (hb2.mono (by omega))
      clear hR1 hB hb2 hrow hb hgs
      have hn2 := fun w => Lib.run_eql_slice_nil (P := Yba.prog) w 22 5 (some ⟨g2, 0, none⟩) k k 0 0 Yba.underlying22
      go_wp2_with fail
      go_loopw [6] (fun i wr => ∃ m : Nat, m ≤ k ∧ i = .int .i64 m ∧ RowF wr g 5 k (fun j => .int .u8 (f j)) ∧ RowF wr g2 5 k (fun j => .int .u8 (f j)) ∧ Below g w wr) (fun i _ => k - (intOf i).toNat)
      case atStart => exact ⟨0, Nat.zero_le _, rfl, hr1, hr2, hB2⟩
      case round =>
        obtain ⟨m, hm, rfl, hA, hD, hB⟩ := hrel
        by_cases hlt : m < k
        · obtain ⟨b, off, rfl, hb0, hcx⟩ := cell_at hlt (unhide HC) (hg.out ▸ hB)
          have hca := hA.cell hlt
          have hcd := hD.cell hlt
          have i0 : (0 : Int) ≤ (m : Int) := by omega
          have i1 : (m : Int) < (k : Int) := by omega
          go_wp2
          go_quiet (fail)
          go_wp2
          go_roundw
          case rel => exact ⟨m + 1, by omega, by go_num, hA.drewN _, hD.drewN _, below_drewN hB _⟩
          case measure => simp [intOf]; omega
        · have hm' : m = k := by omega
          subst hm'
          clear hr1 hr2 hB2
          go_wp2
          go_loopw [7] (fun i wr => ∃ q : Nat, q ≤ m ∧ i = .int .i64 q ∧ RowF wr g 5 m (fun j => .int .u8 (f j)) ∧ (∃ h, RowF wr g2 5 m h) ∧ Below g w wr) (fun i _ => m - (intOf i).toNat)
          case atStart => exact ⟨0, Nat.zero_le _, rfl, hA, ⟨_, hD⟩, hB⟩
          case round =>
            clear hA hD hB
            obtain ⟨q, hq, rfl, hA, ⟨h, hD⟩, hB⟩ := hrel
            by_cases hlt : q < m
            · have hca := hA.cell hlt
              have hcd := hD.cell hlt
              have hfd := hD.frozen q
              go_wp2
              go_roundw
              case rel => exact ⟨q + 1, by omega, by go_num, hA.other (by simp; omega) _, ⟨_, hD.store q _ (f' := fun j => if j = q then _ else h j) (fun _ => if_pos rfl) (fun j _ hj => if_neg hj)⟩, hB.setCell (by simp; omega) _⟩
              case measure => simp [intOf]; omega
            · have hq' : q = m := by omega
              subst hq'
              go_wp2
              go_loopw [8] (fun i wr => ∃ r : Nat, r ≤ q ∧ i = .int .i64 r ∧ RowF wr g 5 q (fun j => .int .u8 (f j)) ∧ Below g w wr) (fun i _ => q - (intOf i).toNat)
              case atStart => exact ⟨0, Nat.zero_le _, rfl, hA, hB⟩
              case round =>
                clear hA hD hB
                obtain ⟨r, hr, rfl, hA, hB⟩ := hrel
                by_cases hlt : r < q
                · obtain ⟨b, off, rfl, hb0, hcx⟩ := cell_at hlt (unhide HC) (hg.out ▸ hB)
                  have hca := hA.cell hlt
                  have i0 : (0 : Int) ≤ (r : Int) := by omega
                  have i1 : (r : Int) < (q : Int) := by omega
                  go_wp2
                  go_quiet (fail)
                  go_wp2
                  go_roundw
                  case rel => exact ⟨r + 1, by omega, by go_num, hA.drewN _, below_drewN hB _⟩
                  case measure => simp [intOf]; omega
                · go_wp2
                  go_ret
                  exact ⟨rfl, hg.out ▸ hB⟩

theorem law_nil (w : World) : Calls Yba.prog 3 #[.slice none 0 0] w fun e w' => e = .returned (.bool true) ∧ Below w.heap.size w w' := by
  have hnil := fun w => Lib.run_eql_slice_nil (P := Yba.prog) w 22 5 none 0 0 0 0 Yba.underlying22
  have hnil2 := fun w => run_neq_slice_nil_any (P := Yba.prog) w 22 5 none 0 0 0 0 Yba.underlying22
  go_enter Yba.func3, Yba.ntmps3
  go_wp2_with (go_at_call 4; refine (keep_nil _).mono ?_; rintro e w' ⟨rfl, rfl⟩)
  go_ret
  exact ⟨rfl, Below.refl _ _⟩

theorem law_long (a : Option Addr) (len cap : Nat) (w : World) (h : 1048576 < len) : Calls Yba.prog 3 #[.slice a len cap] w fun e w' => e = .returned (.bool true) ∧ Below w.heap.size w w' := by
  have hd : (1048576 : Int) < (len : Int) := by omega
  go_enter Yba.func3, Yba.ntmps3
  go_wp2
  go_ret
  exact ⟨rfl, Below.refl _ _⟩
end Go.Proofs.Ybulkdttg.lawS6025AWhole
