/-
  slices.pdqsortOrdered at uint64: it sorts.
-/
import Derived.Test.YbulkdtniGlue
namespace Go.Proofs.Ybulkdtni.lawS6014CWhole
open Go.RowKit Go.Proofs.Ybulkdtni.Own
open Go.Sort (swp ltInt PermIn SortedIn)

def PdqOk (N : Nat) : Prop := ∀ (w : World) (g cap n c a L l : Nat) (tl : Nat → Value) (d : Array Int), L < N → St w w g cap n tl d → a + L ≤ n → n ≤ 1048576 → l ≤ 1048576 → Sort.Below ltInt a (a + L) d →
  Calls Yba.prog 20 #[.slice (some ⟨g, 0, none⟩) n c, .int .i64 a, .int .i64 ((a : Int) + L), .int .i64 l] w fun e w' => ∃ d', e = .returned (.tuple #[]) ∧ St w w' g cap n tl d' ∧ PermIn a (a + L) d d' ∧ SortedIn ltInt a (a + L) d'

set_option maxRecDepth 100000 in
set_option maxHeartbeats 4000000 in
theorem pdq_step (N : Nat) (ih : PdqOk N) : PdqOk (N + 1) := by
  intro w g cap n c a0 L0 l0 tl d hLN h0 hb0 hn hl0 hBel
  have H0 := hide h0
  have HIH := hide ih
  have HBel := hide hBel
  clear h0 ih hBel
  go_enter Yba.func20, Yba.ntmps20
  go_wp2_with fail
  go_loopw [1, 2, 3, 8, 9] (fun va vb vl vwb vwp wr => ∃ (a L l : Nat) (wb wp : Bool) (D : Array Int), va = .int .i64 a ∧ vb = .int .i64 ((a : Int) + L) ∧ vl = .int .i64 l ∧ vwb = .bool wb ∧ vwp = .bool wp ∧ L < N + 1 ∧ a + L ≤ n ∧ l ≤ 1048576 ∧ Hid (St w wr g cap n tl D) ∧ Hid (Sort.Below ltInt a (a + L) D) ∧ Hid (Goes a0 (a0 + L0) d a (a + L) D)) (fun va vb _ _ _ _ => ((intOf vb) - (intOf va)).toNat)
  case atStart => exact ⟨a0, L0, l0, true, true, d, rfl, rfl, rfl, rfl, rfl, hLN, hb0, hl0, H0, HBel, hide (Goes.start _ _ _)⟩
  case round =>
    clear H0 HBel
    obtain ⟨a, L, l, wb, wp, D, rfl, rfl, rfl, rfl, rfl, hL, hb, hl, hS, hBl, hG⟩ := hrel
    have eL : (a : Int) + L - a = L := by omega
    have ecast : ((a + L : Nat) : Int) = (a : Int) + L := by omega
    have HC := hide ecast
    clear ecast
    by_cases h12 : L ≤ 12
    · have q1 : decide ((L : Int) ≤ 12) = true := decide_eq_true (by omega)
      go_wp2_with fail
      have hc := ins30 wr g cap n c a (a + L) tl D hS.out.start (by omega) hb hn
      rw [HC.out] at hc
      refine hc.mono ?_
      rintro e w1 ⟨rfl, h1⟩
      have h2 := hide (hS.out.trans h1)
      have h3 := hide (Sort.insertionSort_holds Sort.swo_ltInt D a (a + L) (by omega) (by have := hS.out.1; omega))
      clear hc h1
      go_wp2
      exact bodyPost_ret (v := .tuple #[]) (by simp [results, go_sem]) rfl ⟨_, rfl, h2.out, hG.out.fine h3.out.1 h3.out.2⟩
    · have q1 : decide ((L : Int) ≤ 12) = false := decide_eq_false (by omega)
      by_cases hl00 : l = 0
      · subst hl00
        go_wp2_with fail
        refine (heap31 wr g cap n c a L tl D hS.out.start hb hn).mono ?_
        rintro e w1 ⟨rfl, h1⟩
        have h2 := hide (hS.out.trans h1)
        have h3 := hide (Sort.heapSort_holds Sort.swo_ltInt D a (a + L) (by omega) (by have := hS.out.1; omega))
        clear h1
        go_wp2
        exact bodyPost_ret (v := .tuple #[]) (by simp [results, go_sem]) rfl ⟨_, rfl, h2.out, hG.out.fine h3.out.1 h3.out.2⟩
      · have q2 : ((l : Int) == 0) = false := by simpa using (by omega : ¬ (l : Int) = 0)
        go_upto_if 35 with fail
        go_cut [3] from 19 to 133 (fun s3 wx => ∃ (l' : Nat) (D1 : Array Int), s3 = .int .i64 l' ∧ l' ≤ 1048576 ∧ Hid (St w wx g cap n tl D1) ∧ Hid (PermIn a (a + L) D D1))
        case first =>
          cases wb
          · go_wp2_with fail
            refine (break32 wr g cap n c a L tl D hS.out.start (by omega) hb hn).mono ?_
            rintro e w1 ⟨D1, rfl, h1, hp⟩
            have h2 := hide (hS.out.trans h1)
            have HP := hide hp
            clear h1 hp
            go_wp2
            go_meet
            case rel => exact ⟨l - 1, D1, by congr 1; omega, by omega, h2, HP⟩
          · go_wp2
            go_meet
            case rel => exact ⟨l, D, rfl, hl, hS, hide (Sort.permIn_refl _ _ _)⟩
        case rest =>
          obtain ⟨l1, D1, rfl, hl1, hS1, hP1⟩ := hcut
          clear hS
          have hsz := hide hS1.out.1
          go_wp2_with fail
          refine (pivot33 wc g cap n c a L tl D1 hS1.out.start (by omega) hb hn).mono ?_
          rintro e w2 ⟨m, h, rfl, hm0, hm1, hh, h2⟩
          have S2 := hide (hS1.out.trans h2)
          have HG1 := hide (hG.out.perm hP1.out)
          have HB1 := hide (below_perm (by have := hP1.out.1; have := hsz.out; omega) hBl.out hP1.out)
          clear h2 hS1 hG hBl
          go_upto_if 50 with fail
          go_cut [11, 12] from 19 to 133 (fun s11 s12 wx => ∃ (pv : Nat) (h' : Int) (D2 : Array Int), s11 = .int .i64 pv ∧ s12 = .int .i64 h' ∧ a ≤ pv ∧ pv < a + L ∧ (h' = 0 ∨ h' = 1) ∧ Hid (St w wx g cap n tl D2) ∧ Hid (PermIn a (a + L) D1 D2))
          case first =>
            by_cases h2 : h = 2
            · subst h2
              go_wp2_with fail
              have hc := rev34 w2 g cap n c a (a + L) tl D1 S2.out.start (by omega) hb hn
              rw [HC.out] at hc
              refine hc.mono ?_
              rintro e w3 ⟨rfl, h3⟩
              have S3 := hide (S2.out.trans h3)
              have P3 := hide (Sort.reverseRange_holds D1 a (a + L) (by omega) (by have := hsz.out; omega))
              clear hc h3
              go_wp2
              go_meet
              case rel => exact ⟨a + L - 1 - (m - a), 1, _, by congr 1; omega, rfl, by omega, by omega, Or.inr rfl, S3, P3⟩
            · have q3 : (h == 2) = false := by simpa using h2
              go_wp2
              go_meet
              case rel => exact ⟨m, h, D1, rfl, rfl, hm0, hm1, by omega, S2, hide (Sort.permIn_refl _ _ _)⟩
          case rest =>
            clear S2
            obtain ⟨pv, h', D2, rfl, rfl, hpv0, hpv1, hh', S3, P3⟩ := hcut
            have HG2 := hide (HG1.out.perm P3.out)
            have HB2 := hide (below_perm (by have := hsz.out; omega) HB1.out P3.out)
            have hsz2 := hide S3.out.1
            clear HG1 HB1 hsz hm0 hm1 hh P3
            go_upto_region 15 with fail
            go_cut [68] from 19 to 133 (fun s68 wx => s68 = .bool (wb && wp && (h' == 1)) ∧ Hid (St w wx g cap n tl D2))
            case first =>
              rcases hh' with rfl | rfl <;> cases wb <;> cases wp
              all_goals go_wp2
              all_goals go_meet
              all_goals exact ⟨rfl, S3⟩
            case rest =>
              clear S3
              obtain ⟨rfl, S3⟩ := hcut
              go_upto_if 68 with fail
              go_cut [] from 19 to 133 (fun wx => ∃ (D3 : Array Int), Hid (St w wx g cap n tl D3) ∧ Hid (PermIn a (a + L) D2 D3))
              case first =>
                rcases hall : (wb && wp && (h' == 1)) with _ | _
                · go_wp2
                  go_meet
                  case rel => exact ⟨D2, S3, hide (Sort.permIn_refl _ _ _)⟩
                · go_wp2_with fail
                  have hc := pins35 _ g cap n c a (a + L) tl D2 S3.out.start (by omega) hb hn
                  rw [HC.out] at hc
                  have hspec := hide (Sort.partialInsertionSort_holds Sort.swo_ltInt D2 a (a + L) (by omega) (by have := hsz2.out; omega) HB2.out)
                  refine hc.mono ?_
                  generalize Sort.partialInsertionSort ltInt D2 a (a + L) = pr at hspec ⊢
                  obtain ⟨D3, fl⟩ := pr
                  rintro e w4 ⟨rfl, h4⟩
                  have S4 := hide (S3.out.trans h4)
                  clear hc h4
                  cases fl
                  · go_wp2
                    go_meet
                    case rel => exact ⟨D3, S4, hide hspec.out.1⟩
                  · go_wp2
                    exact bodyPost_ret (v := .tuple #[]) (by simp [results, go_sem]) rfl ⟨D3, rfl, S4.out, HG2.out.fine hspec.out.1 (hspec.out.2 (by first | rfl | trivial))⟩
              case rest =>
                clear S3
                obtain ⟨D3, S4, P4⟩ := hcut
                have HG3 := hide (HG2.out.perm P4.out)
                have HB3 := hide (below_perm (by have := hsz2.out; omega) HB2.out P4.out)
                have hsz3 := hide S4.out.1
                clear HG2 HB2 hsz2 P4
                rename World => wx
                obtain ⟨x, hx⟩ : ∃ x, x = D3[pv]! := ⟨_, rfl⟩
                have HX := hide hx
                have c1 : wx.cell? ⟨g, pv, none⟩ = some (.int .u64 x) := by rw [hx]; exact S4.out.cell (by omega)
                clear hx
                have r1 : (pv : Int) < n := by omega
                by_cases ha : 0 < a
                · have p1 : decide ((0 : Int) < (a : Int)) = true := decide_eq_true (by omega)
                  obtain ⟨k, hk⟩ : ∃ k : Nat, (a : Int) - 1 = k := ⟨a - 1, by omega⟩
                  have hka : k = a - 1 := by omega
                  obtain ⟨y, hy⟩ : ∃ y, y = D3[a - 1]! := ⟨_, rfl⟩
                  have HY := hide hy
                  have c0 : wx.cell? ⟨g, k, none⟩ = some (.int .u64 y) := by rw [hy, hka]; exact S4.out.cell (by omega)
                  have r2 : (k : Int) < n := by omega
                  clear hy hka
                  go_wp2_with fail
                  go_quiet ((go_at_call 22; refine Calls.quiet_of_same (less22 _ _ _)))
                  have S5 := hide (S4.out.drewN nq)
                  generalize hwq : wx.drewN nq = wq at S5 ⊢
                  clear c0 c1 hwq S4
                  rcases hl : ltInt y x with _ | _
                  · go_wp2_with fail
                    have hc := partEq36 wq g cap n c a (a + L) pv tl D3 S5.out.start hpv0 hpv1 hb hn
                    rw [HC.out] at hc
                    refine hc.mono ?_
                    rintro e w6 ⟨m, D4, rfl, h6, hE⟩
                    have S6 := hide (S5.out.trans h6)
                    have hno : Hid (∀ i, a ≤ i → i < a + L → ltInt D3[i]! x = false) := hide (none_less HB3.out ha (by rw [← HY.out]; exact hl))
                    have HE := hide hE
                    have m1 := hE.am
                    have m2 := hE.mb
                    clear hc h6 hE
                    go_wp2
                    go_roundw
                    case rel => exact ⟨m, a + L - m, l1, wb, wp, D4, rfl, by congr 1; omega, rfl, rfl, rfl, by omega, by omega, hl1, S6, hide (by
                      rw [show m + (a + L - m) = a + L by omega]
                      exact below_eq HE.out), hide (by
                      rw [show m + (a + L - m) = a + L by omega]
                      intro d'' k1 k2
                      have := glueE HE.out (by have := S6.out.1; omega) (by rw [S6.out.1, hsz3.out]) (by rw [← HX.out]; exact hno.out) k1 k2
                      exact HG3.out d'' (Sort.permIn_trans _ _ _ _ _ HE.out.perm this.1) this.2)⟩
                    case measure => simp [intOf]; omega
                  · go_wp2_with fail
                    have hc := part37 wq g cap n c a (a + L) pv tl D3 S5.out.start hpv0 hpv1 hb hn
                    rw [HC.out] at hc
                    refine hc.mono ?_
                    rintro e w6 ⟨m, fl, D4, rfl, h6, hE⟩
                    have S6 := hide (S5.out.trans h6)
                    have HE := hide hE
                    have m1 := hE.am
                    have m2 := hE.mb
                    obtain ⟨K, rfl⟩ : ∃ K, m = a + K := ⟨m - a, by omega⟩
                    have eK : (a : Int) + K - a = K := by omega
                    have eR : (a : Int) + L - (a + K) = ((L - K : Nat) : Int) := by omega
                    clear hc h6 hE
                    by_cases hside : K < L - K
                    · have p5 : decide ((K : Int) < ((L - K : Nat) : Int)) = true := decide_eq_true (by omega)
                      go_wp2_with fail
                      refine (HIH.out w6 g cap n c a K l1 tl D4 (by omega) S6.out.start (by omega) hn hl1 (below_less (below_perm (by have := hsz3.out; omega) HB3.out HE.out.perm) (by omega))).mono ?_
                      rintro e w7 ⟨D5, rfl, h7, hp7, hs7⟩
                      have S7 := hide (S6.out.trans h7)
                      have Q7 := hide (And.intro hp7 hs7)
                      clear h7 hp7 hs7
                      go_wp2
                      go_roundw
                      case rel => exact ⟨a + K + 1, L - K - 1, l1, _, _, D5, by congr 1, by congr 1; omega, rfl, rfl, rfl, by omega, by omega, hl1, S7, hide (by
                        rw [show a + K + 1 + (L - K - 1) = a + L by omega]
                        exact below_right HE.out Q7.out.1), hide (by
                        rw [show a + K + 1 + (L - K - 1) = a + L by omega]
                        intro d'' k1 k2
                        have := glueR HE.out (by have := S6.out.1; omega) Q7.out.1 Q7.out.2 k1 k2
                        exact HG3.out d'' (Sort.permIn_trans _ _ _ _ _ HE.out.perm this.1) this.2)⟩
                      case measure => simp [intOf]; omega
                    · have p5 : decide ((K : Int) < ((L - K : Nat) : Int)) = false := decide_eq_false (by omega)
                      go_wp2_with fail
                      have hc := HIH.out w6 g cap n c (a + K + 1) (L - K - 1) l1 tl D4 (by omega) S6.out.start (by omega) hn hl1 (by
                        rw [show a + K + 1 + (L - K - 1) = a + L by omega]
                        exact below_right0 HE.out)
                      rw [show ((a + K + 1 : Nat) : Int) + ((L - K - 1 : Nat) : Int) = (a : Int) + L by omega, show ((a + K + 1 : Nat) : Int) = (a : Int) + K + 1 by omega, show a + K + 1 + (L - K - 1) = a + L by omega] at hc
                      refine hc.mono ?_
                      rintro e w7 ⟨D5, rfl, h7, hp7, hs7⟩
                      have S7 := hide (S6.out.trans h7)
                      have Q7 := hide (And.intro hp7 hs7)
                      clear h7 hp7 hs7 hc
                      go_wp2
                      go_roundw
                      case rel => exact ⟨a, K, l1, _, _, D5, rfl, by first | rfl | (congr 1; omega), rfl, rfl, rfl, by omega, by omega, hl1, S7, hide (below_left (by have := hsz3.out; omega) HB3.out HE.out Q7.out.1), hide (by
                        intro d'' k1 k2
                        have := glueL HE.out (by have := S6.out.1; omega) Q7.out.1 Q7.out.2 k1 k2
                        exact HG3.out d'' (Sort.permIn_trans _ _ _ _ _ HE.out.perm this.1) this.2)⟩
                      case measure => simp [intOf]; omega
                · have p1 : decide ((0 : Int) < (a : Int)) = false := decide_eq_false (by omega)
                  go_wp2_with fail
                  go_quiet (fail)
                  have S5 := hide (S4.out.drewN nq)
                  generalize hwq : wx.drewN nq = wq at S5 ⊢
                  clear c1 hwq S4
                  go_wp2_with fail
                  have hc := part37 wq g cap n c a (a + L) pv tl D3 S5.out.start hpv0 hpv1 hb hn
                  rw [HC.out] at hc
                  refine hc.mono ?_
                  rintro e w6 ⟨m, fl, D4, rfl, h6, hE⟩
                  have S6 := hide (S5.out.trans h6)
                  have HE := hide hE
                  have m1 := hE.am
                  have m2 := hE.mb
                  obtain ⟨K, rfl⟩ : ∃ K, m = a + K := ⟨m - a, by omega⟩
                  have eK : (a : Int) + K - a = K := by omega
                  have eR : (a : Int) + L - (a + K) = ((L - K : Nat) : Int) := by omega
                  clear hc h6 hE
                  by_cases hside : K < L - K
                  · have p5 : decide ((K : Int) < ((L - K : Nat) : Int)) = true := decide_eq_true (by omega)
                    go_wp2_with fail
                    refine (HIH.out w6 g cap n c a K l1 tl D4 (by omega) S6.out.start (by omega) hn hl1 (below_less (below_perm (by have := hsz3.out; omega) HB3.out HE.out.perm) (by omega))).mono ?_
                    rintro e w7 ⟨D5, rfl, h7, hp7, hs7⟩
                    have S7 := hide (S6.out.trans h7)
                    have Q7 := hide (And.intro hp7 hs7)
                    clear h7 hp7 hs7
                    go_wp2
                    go_roundw
                    case rel => exact ⟨a + K + 1, L - K - 1, l1, _, _, D5, by congr 1, by congr 1; omega, rfl, rfl, rfl, by omega, by omega, hl1, S7, hide (by
                      rw [show a + K + 1 + (L - K - 1) = a + L by omega]
                      exact below_right HE.out Q7.out.1), hide (by
                      rw [show a + K + 1 + (L - K - 1) = a + L by omega]
                      intro d'' k1 k2
                      have := glueR HE.out (by have := S6.out.1; omega) Q7.out.1 Q7.out.2 k1 k2
                      exact HG3.out d'' (Sort.permIn_trans _ _ _ _ _ HE.out.perm this.1) this.2)⟩
                    case measure => simp [intOf]; omega
                  · have p5 : decide ((K : Int) < ((L - K : Nat) : Int)) = false := decide_eq_false (by omega)
                    go_wp2_with fail
                    have hc := HIH.out w6 g cap n c (a + K + 1) (L - K - 1) l1 tl D4 (by omega) S6.out.start (by omega) hn hl1 (by
                      rw [show a + K + 1 + (L - K - 1) = a + L by omega]
                      exact below_right0 HE.out)
                    rw [show ((a + K + 1 : Nat) : Int) + ((L - K - 1 : Nat) : Int) = (a : Int) + L by omega, show ((a + K + 1 : Nat) : Int) = (a : Int) + K + 1 by omega, show a + K + 1 + (L - K - 1) = a + L by omega] at hc
                    refine hc.mono ?_
                    rintro e w7 ⟨D5, rfl, h7, hp7, hs7⟩
                    have S7 := hide (S6.out.trans h7)
                    have Q7 := hide (And.intro hp7 hs7)
                    clear h7 hp7 hs7 hc
                    go_wp2
                    go_roundw
                    case rel => exact ⟨a, K, l1, _, _, D5, rfl, by first | rfl | (congr 1; omega), rfl, rfl, rfl, by omega, by omega, hl1, S7, hide (below_left (by have := hsz3.out; omega) HB3.out HE.out Q7.out.1), hide (by
                      intro d'' k1 k2
                      have := glueL HE.out (by have := S6.out.1; omega) Q7.out.1 Q7.out.2 k1 k2
                      exact HG3.out d'' (Sort.permIn_trans _ _ _ _ _ HE.out.perm this.1) this.2)⟩
                    case measure => simp [intOf]; omega

theorem pdq_ok : ∀ N, PdqOk N
  | 0 => fun _ _ _ _ _ _ _ _ _ _ h => absurd h (Nat.not_lt_zero _)
  | N + 1 => pdq_step N (pdq_ok N)

set_option maxHeartbeats 1000000 in
/-- slices.Sort at uint64. -/
theorem sort8 (w : World) (g cap n c : Nat) (tl : Nat → Value) (d : Array Int) (h0 : St w w g cap n tl d) (hn : n ≤ 1048576) :
    Calls Yba.prog 8 #[.slice (some ⟨g, 0, none⟩) n c] w fun e w' => ∃ d', e = .returned (.tuple #[]) ∧ St w w' g cap n tl d' ∧ PermIn 0 n d d' ∧ SortedIn ltInt 0 n d' := by
  have H0 := hide h0
  clear h0
  have hbl : Lib.bitLen n ≤ 1048576 := by
    rcases Nat.eq_zero_or_pos n with h | h
    · subst h; decide
    · have := pow_le n h hn; omega
  go_enter Yba.func8, Yba.ntmps8
  go_wp2_with fail
  refine (len21 n w hn).mono ?_
  rintro e w1 ⟨rfl, rfl⟩
  go_wp2_with fail
  have hc := pdq_ok (n + 1) w1 g cap n c 0 n (Lib.bitLen n) tl d (by omega) H0.out (by omega) hn hbl (Or.inl rfl)
  rw [show ((0 : Nat) : Int) + (n : Int) = n by omega, Nat.zero_add] at hc
  refine hc.mono ?_
  rintro e w2 ⟨d', rfl, h1, h2, h3⟩
  have H1 := hide h1
  have H2 := hide h2
  have H3 := hide h3
  clear h1 h2 h3 hc
  go_wp2
  go_end0
  exact ⟨d', rfl, H1.out, H2.out, H3.out⟩

end Go.Proofs.Ybulkdtni.lawS6014CWhole
