import Derived.Test.YbulkdtniDrop
import Derived.Test.YbulkdtniRows
import Derived.WalkSpells
import Derived.Deep.QuietTactic
import Derived.BigQuiet
import Derived.Deep.DeepCutAuto
import Derived.Deep.CutBlock
import Derived.RegionTactic
namespace Go.Proofs.Ybulkdtni.lawS6014BWhole
open Go.RowKit Go.Proofs.Ybulkdtni.Own

set_option maxRecDepth 100000 in
set_option maxHeartbeats 2000000 in
theorem law_core (am : Option Addr) (lm cm : Nat) (fm : Nat → Int) (p0 : Int) (ash : Option Addr) (ls cs : Nat) (fs : Nat → Int) (pred at_ hops owner : Int) (dl : Bool) (num tr : Int) (w : World)
    (hm : lm ≤ 1048576) (hs : ls ≤ 1048576) (hp1 : -9223372036854775808 ≤ p0) (hp2 : p0 ≤ 9223372036854775807) (hcm : Hid (Arg w am lm .u8 fm)) (hcs : Hid (Arg w ash ls .i64 fs)) (mb sb : Bool) (hmb : Hid ((!am.isNone) = mb)) (hsb : Hid ((!ash.isNone) = sb)) (hs0 : Hid (sb = false → ls = 0)) :
    Calls Yba.prog 3 #[.slice am lm cm, .int .i64 p0, .slice ash ls cs, .int .i32 pred, .int .i64 at_, .int .i64 hops, .int .i64 owner, .bool dl, .int .u64 num, .int .i64 tr] w fun e w' => e = .returned (.bool true) ∧ Below w.heap.size w w' := by
  have hnm := fun w => (run_neq_slice_nil_any (P := Yba.prog) w 22 5 am lm cm 0 0 Yba.underlying22).trans (by rw [hmb.out])
  have hns := fun w => (run_neq_slice_nil_any (P := Yba.prog) w 23 3 ash ls cs 0 0 Yba.underlying23).trans (by rw [hsb.out])
  have hd1 : decide ((1048576 : Int) < (ls : Int)) = false := decide_eq_false (by omega)
  have hd2 : decide ((1048576 : Int) < (lm : Int)) = false := decide_eq_false (by omega)
  go_enter Yba.func3, Yba.ntmps3
  go_upto_if 38 with fail
  go_cut [1] from 29 to 47 (fun s1 wc => (∃ p : Int, s1 = .int .i64 p ∧ PayOk p ls mb) ∧ w = wc)
  case first =>
    by_cases h0 : 0 ≤ p0
    · by_cases h1 : 0 < ls
      · have h1' : (0 : Int) < (ls : Int) := by omega
        go_wp2
        go_meet
        case rel => exact ⟨⟨_, rfl, (.inr (.inl ⟨Int.emod_nonneg _ (by omega), Int.emod_lt_of_pos _ h1'⟩))⟩, rfl⟩
      · have h1' : ¬ (0 : Int) < (ls : Int) := by omega
        cases mb
        · go_wp2
          go_meet
          case rel => exact ⟨⟨_, rfl, (.inr (.inr rfl))⟩, rfl⟩
        · go_wp2
          go_meet
          case rel => exact ⟨⟨_, rfl, (.inl (by omega))⟩, rfl⟩
    · go_wp2
      go_meet
      case rel => exact ⟨⟨_, rfl, (.inl (by omega))⟩, rfl⟩
  case rest =>
    obtain ⟨⟨p, rfl, HP⟩, rfl⟩ := hcut
    go_wp2_with (at_make; refine wpList_make_row rfl _ _ 22 rfl 5 (.int .u8 0) 1 Yba.underlying22 info5 rfl _ _ _ _ lm rfl rfl rfl rfl (by omega) (by unfold maxLen; omega) ?_)
    intro g1 w1 hg1 hs1 hrow hb
    go_wp2_with fail
    go_loopw [22] (fun i wr => ∃ k : Nat, k ≤ lm ∧ i = .int .i64 k ∧ RowF wr g1 5 lm (fun j => if j < k then .int .u8 (fm j) else .int .u8 0) ∧ Below g1 w wr) (fun i _ => lm - (intOf i).toNat)
    case atStart => exact ⟨0, Nat.zero_le _, rfl, hrow.congr (fun j _ => by simp), hb⟩
    case round =>
      clear hrow hb hs1
      obtain ⟨k, hk, rfl, hR, hB⟩ := hrel
      by_cases hlt : k < lm
      · obtain ⟨b, off, rfl, _, hcx⟩ := hcm.out.at (hg1.out ▸ hB) hlt
        have hck := hR.cell hlt
        have hfk := hR.frozen k
        go_wp2
        go_roundw
        case rel => exact ⟨k + 1, by omega, by go_num, fill_step hR _ rfl, hB.setCell (Nat.le_refl _) _⟩
        case measure => simp [intOf]; omega
      · have hk' : k = lm := by omega
        subst hk'
        have hR1 : RowF wr g1 5 k (fun j => .int .u8 (fm j)) := hR.congr (fun j hj => by rw [if_pos hj])
        clear hR hlt
        go_upto_if 65 with fail
        go_cut [23] from 64 to 81 (fun s23 wx => ∃ qa, s23 = .slice qa ls ls ∧ Hid ((!qa.isNone) = sb) ∧ OwnShare wx g1 qa ls fs ∧ RowF wx g1 5 k (fun j => .int .u8 (fm j)) ∧ Below g1 w wx)
        case first =>
          cases sb
          · obtain rfl := hs0.out rfl
            go_wp2
            go_meet
            case rel => exact ⟨none, rfl, rfl, fun h => absurd h (Nat.lt_irrefl 0), hR1, hB⟩
          · go_wp2_with (at_make; refine wpList_make_row rfl _ _ 23 rfl 3 (.int .i64 0) 8 Yba.underlying23 info3 rfl _ _ _ _ ls rfl rfl rfl rfl (by omega) (by unfold maxLen; omega) ?_)
            intro g2 w2 hg2 hs2 hrow2 hb2
            have hlt2 : g1 < g2 := by have := hg2.out; have := hR1.lt; omega
            have hR2 := hR1.below hb2 hlt2
            have hB2 : Below g1 w w2 := hB.trans (hb2.mono (by omega))
            clear hs2 hb2 hR1 hB
            go_wp2_with fail
            go_loopw [24] (fun i wr => ∃ m : Nat, m ≤ ls ∧ i = .int .i64 m ∧ RowF wr g2 3 ls (fun j => if j < m then .int .i64 (fs j) else .int .i64 0) ∧ RowF wr g1 5 k (fun j => .int .u8 (fm j)) ∧ Below g1 w wr) (fun i _ => ls - (intOf i).toNat)
            case atStart => exact ⟨0, Nat.zero_le _, rfl, hrow2.congr (fun j _ => by simp), hR2, hB2⟩
            case round =>
              clear hrow2 hR2 hB2
              obtain ⟨m, hm2, rfl, hR, hR1, hB⟩ := hrel
              by_cases hlt : m < ls
              · obtain ⟨b, off, rfl, _, hcx⟩ := hcs.out.at (hg1.out ▸ hB) hlt
                have hck := hR.cell hlt
                have hfk := hR.frozen m
                go_wp2
                go_roundw
                case rel => exact ⟨m + 1, by omega, by go_num, fill_step hR _ rfl, hR1.other (by simp; omega) _, hB.setCell (by simp; omega) _⟩
                case measure => simp [intOf]; omega
              · have hk' : m = ls := by omega
                subst hk'
                have hR3 : RowF wr g2 3 m (fun j => .int .i64 (fs j)) := hR.congr (fun j hj => by rw [if_pos hj])
                go_wp2
                go_meet
                case rel => exact ⟨_, rfl, rfl, fun _ => ⟨g2, rfl, hlt2, hR3⟩, hR1, hB⟩
        case rest =>
          clear hR1 hB
          obtain ⟨qa, rfl, Hqa, hOwn, hR1, hB⟩ := hcut
          go_upto_region 23 with fail
          go_cut [25, 26] from 82 to 103 (fun s25 s26 wx => ∃ bq bv, s25 = .pointer (some ⟨bq, 0, none⟩) ∧ s26 = .pointer (some ⟨bv, 0, none⟩) ∧ RowF wx bv 56 20 (dropped fun j => (vCells num tr pred at_ hops am k cm owner p dl).getD j undef) ∧ RowF wx bq 44 17 (fun j => (qCells qa ls).getD j undef) ∧ RowF wx g1 5 k (fun j => .int .u8 (fm j)) ∧ OwnShare wx g1 qa ls (lowered mb p k fs) ∧ Below g1 w wx)
          case first =>
            have hlt1 := hR1.lt
            go_wp2_with fail
            refine (drop_all _ _ g1 _ am k cm p qa ls k fs mb (fun j => (vCells num tr pred at_ hops am k cm owner p dl).getD j undef) (fun j => (qCells qa ls).getD j undef) (fun j => .int .u8 (fm j)) ?_ ?_ rfl rfl rfl hmb.out HP ?_ ?_ ?_).mono ?_
            · have := rowF_alloc (wc.alloc (.cells (qCells qa ls).toArray 44)) (vCells num tr pred at_ hops am k cm owner p dl) 56
              rw [World.size_alloc] at this
              exact this
            · exact (rowF_alloc wc (qCells qa ls) 44).alloc _
            · exact (hOwn.of_blocks (fun i hi => Below.heap_alloc _ _ _ hi)).of_blocks (fun i hi => Below.heap_alloc _ _ _ hi)
            · exact (hR1.alloc _).alloc _
            · omega
            rintro e w3 ⟨rfl, hV, hQ, h1, ho, hb⟩
            go_wp2
            go_meet
            case rel => exact ⟨_, _, rfl, rfl, hV, hQ, h1, ho, ((hB.alloc (by omega) _).alloc (by simp; omega) _).trans hb⟩
          case rest =>
            clear hOwn hR1 hB
            obtain ⟨bq, bv, rfl, rfl, hV, hQ, h1, ho, hb⟩ := hcut
            have c0 : wc.cell? ⟨bv, 0, none⟩ = some (.int .u64 num) := hV.cell (by omega)
            have c1 : wc.cell? ⟨bv, 1, none⟩ = some (.int .i64 tr) := hV.cell (by omega)
            have c2 : wc.cell? ⟨bv, 2, none⟩ = some (.int .i32 pred) := hV.cell (by omega)
            have c7 : wc.cell? ⟨bv, 7, none⟩ = some (.slice none 0 0) := hV.cell (by omega)
            have c8 : wc.cell? ⟨bv, 8, none⟩ = some (.slice none 0 0) := hV.cell (by omega)
            have c9 : wc.cell? ⟨bv, 9, none⟩ = some (.int .i64 at_) := hV.cell (by omega)
            have c10 : wc.cell? ⟨bv, 10, none⟩ = some (.int .i64 hops) := hV.cell (by omega)
            have c11 : wc.cell? ⟨bv, 11, none⟩ = some (.slice none 0 0) := hV.cell (by omega)
            have c12 : wc.cell? ⟨bv, 12, none⟩ = some (.int .i64 owner) := hV.cell (by omega)
            have c13 : wc.cell? ⟨bv, 13, none⟩ = some (.int .i64 (-1)) := hV.cell (by omega)
            have c14 : wc.cell? ⟨bv, 14, none⟩ = some (.bool dl) := hV.cell (by omega)
            have c15 : wc.cell? ⟨bv, 15, none⟩ = some (.pointer none) := hV.cell (by omega)
            have c19 : wc.cell? ⟨bv, 19, none⟩ = some (.pointer none) := hV.cell (by omega)
            have d0 : wc.cell? ⟨bq, 0, none⟩ = some (.map none) := hQ.cell (by omega)
            have d6 : wc.cell? ⟨bq, 6, none⟩ = some (.slice qa ls ls) := hQ.cell (by omega)
            have d7 : wc.cell? ⟨bq, 7, none⟩ = some (.map none) := hQ.cell (by omega)
            have n22 := fun w => run_neq_slice_nil_any (P := Yba.prog) w 22 5 none 0 0 0 0 Yba.underlying22
            have n48 := fun w => run_neq_slice_nil_any (P := Yba.prog) w 48 _ none 0 0 0 0 Yba.underlying48
            have n23 := fun w => run_neq_slice_nil_any (P := Yba.prog) w 23 3 none 0 0 0 0 Yba.underlying23
            have n26 := fun w => run_neq_map_nil (P := Yba.prog) w 26 _ _ none Yba.underlying26
            have n33 := fun w => run_neq_map_nil (P := Yba.prog) w 33 _ _ none Yba.underlying33
            have eqa : qa.isNone = !sb := by rw [← Hqa.out, Bool.not_not]
            have eas : ash.isNone = !sb := by rw [← hsb.out, Bool.not_not]
            have e1 := fun w => (Lib.run_eql_slice_nil (P := Yba.prog) w 23 3 qa ls ls 0 0 Yba.underlying23).trans (by rw [eqa])
            have e2 := fun w => (Lib.run_eql_slice_nil (P := Yba.prog) w 23 3 ash ls cs 0 0 Yba.underlying23).trans (by rw [eas])
            clear eqa eas
            go_wp2_with fail
            have HV := hide hV
            have HB := hide hb
            clear c0 c1 c2 c7 c8 c9 c10 c11 c12 c13 c14 c15 c19 n22 n48 n23 hV hb e1 e2 hns
            go_loop [27] (fun i => ∃ m : Nat, m ≤ ls ∧ i = .int .i64 m) (fun i => ls - (intOf i).toNat)
            case atStart => exact ⟨0, Nat.zero_le _, rfl⟩
            case round =>
              obtain ⟨m, hm2, rfl⟩ := hrel
              by_cases hlt : m < ls
              · obtain ⟨b, off, rfl, _, hcx⟩ := hcs.out.at (hg1.out ▸ HB.out) hlt
                obtain ⟨g2, rfl, _, hr⟩ := ho (by omega)
                have hcq := hr.cell hlt
                by_cases hup : mb = true ∧ (m : Int) = p
                · have hlow : lowered mb p k fs m = wrap64 (fs m - k) := if_pos hup
                  rw [hlow] at hcq
                  obtain ⟨rfl, rfl⟩ := hup
                  go_wp2
                  go_round
                  case rel => exact ⟨m + 1, by omega, by go_num⟩
                  case measure => simp [intOf]; omega
                · have hlow : lowered mb p k fs m = fs m := if_neg hup
                  rw [hlow] at hcq
                  clear hlow
                  cases mb
                  · go_wp2
                    go_round
                    case rel => exact ⟨m + 1, by omega, by go_num⟩
                    case measure => simp [intOf]; omega
                  · have hne : ((m : Int) == p) = false := by simpa using hup
                    go_wp2
                    go_round
                    case rel => exact ⟨m + 1, by omega, by go_num⟩
                    case measure => simp [intOf]; omega
              · go_wp2_with fail
                refine (equal_same _ _ _ _ _ fm _ ?_ ?_).mono ?_
                · intro j hj
                  obtain ⟨b, off, e, hl, hc⟩ := hcm.out.at (hg1.out ▸ HB.out) hj
                  exact ⟨b, off, e, Nat.lt_of_lt_of_le hl HB.out.size, hc⟩
                · exact RowF.arg h1
                rintro e w4 ⟨rfl, rfl⟩
                go_wp2
                go_ret
                exact ⟨rfl, hg1.out ▸ HB.out⟩

set_option maxRecDepth 100000 in
theorem law_long (am : Option Addr) (lm cm : Nat) (p0 : Int) (ash : Option Addr) (ls cs : Nat) (pred at_ hops owner : Int) (dl : Bool) (num tr : Int) (w : World) (h : 1048576 < ls ∨ 1048576 < lm) :
    Calls Yba.prog 3 #[.slice am lm cm, .int .i64 p0, .slice ash ls cs, .int .i32 pred, .int .i64 at_, .int .i64 hops, .int .i64 owner, .bool dl, .int .u64 num, .int .i64 tr] w fun e w' => e = .returned (.bool true) ∧ Below w.heap.size w w' := by
  by_cases h1 : 1048576 < ls
  · have hd : (1048576 : Int) < (ls : Int) := by omega
    go_enter Yba.func3, Yba.ntmps3
    go_wp2
    go_ret
    exact ⟨rfl, Below.refl _ _⟩
  · have hd : ¬ (1048576 : Int) < (ls : Int) := by omega
    have hd2 : (1048576 : Int) < (lm : Int) := by omega
    go_enter Yba.func3, Yba.ntmps3
    go_wp2
    go_ret
    exact ⟨rfl, Below.refl _ _⟩
end Go.Proofs.Ybulkdtni.lawS6014BWhole
