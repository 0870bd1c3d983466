import Derived.Test.YbulkdtseParts
namespace Go.Proofs.Ybulkdtse.lawS6023AWhole
open Go.RowKit Go.Proofs.Ybulkdtse.Own

set_option maxRecDepth 100000 in
set_option maxHeartbeats 4000000 in
theorem law_core (task pk : Int) (nm : Bool) (a : Option Addr) (n c : Nat) (en : Nat → Ent) (w : World) (hn : n * 40 ≤ 140737488351232) (hpk : 0 ≤ pk ∧ pk ≤ 255) (hA : Hid (ArgE w a n en)) (hS : Hid (∀ j, j < n → SkipOk w (en j))) :
    Calls Yba.prog 3 #[.int .i64 task, .int .u8 pk, .bool nm, .slice a n c] w fun e w' => e = .returned (.bool true) ∧ Below w.heap.size w w' := by
  obtain ⟨hp0, hp1⟩ := hpk
  go_enter Yba.func3, Yba.ntmps3
  go_wp2_with fail
  go_loop [27, 9] (fun i t => ∃ k : Nat, k ≤ n ∧ i = .int .i64 k ∧ ∃ T : Int, t = .int .i64 T) (fun i _ => n - (intOf i).toNat)
  case atStart => exact ⟨0, Nat.zero_le _, rfl, _, rfl⟩
  case round =>
    obtain ⟨k, hk, rfl, T, rfl⟩ := hrel
    by_cases hlt : k < n
    · obtain ⟨b, off, rfl, _, h0, h1, h2⟩ := hA.out.at (Below.refl _ _) hlt
      go_wp2
      go_round
      case rel => exact ⟨k + 1, by omega, by go_num, _, rfl⟩
      case measure => simp [intOf]; omega
    · by_cases hT : 1048576 < T
      · go_wp2
        go_ret
        exact ⟨rfl, Below.refl _ _⟩
      · have hT' : decide (1048576 < T) = false := decide_eq_false hT
        go_upto_region 9 with fail
        go_cut [48] from 39 to 58 (fun s48 wx => s48 = .bool (decide (pk % 2 = 1 ∧ 0 < n)) ∧ w = wx)
        case first =>
          by_cases q1 : pk % 2 = 1
          · have q1b : (pk % 2 == 1) = true := by simpa using q1
            by_cases q2 : 0 < n
            · have q2b : decide ((0 : Int) < (n : Int)) = true := decide_eq_true (by omega)
              go_wp2
              go_meet
              case rel => exact ⟨by first | rfl | simp [q1, q2], rfl⟩
            · have q2b : decide ((0 : Int) < (n : Int)) = false := decide_eq_false (by omega)
              go_wp2
              go_meet
              case rel => exact ⟨by first | rfl | simp [q2], rfl⟩
          · have q1b : (pk % 2 == 1) = false := by simpa using q1
            go_wp2
            go_meet
            case rel => exact ⟨by first | rfl | simp [q1], rfl⟩
        case rest =>
          obtain ⟨rfl, rfl⟩ := hcut
          go_upto_if 48 with fail
          go_cut [0] from 39 to 58 (fun s0 wx => (∃ t : Int, s0 = .int .i64 t) ∧ w = wx)
          case first =>
            by_cases q : pk % 2 = 1 ∧ 0 < n
            · have e : decide (pk % 2 = 1 ∧ 0 < n) = true := decide_eq_true q
              obtain ⟨j, hj⟩ : ∃ j : Nat, pk / 2 % (n : Int) = (j : Int) := ⟨(pk / 2 % (n : Int)).toNat, by
                have := Int.emod_nonneg (pk / 2) (b := (n : Int)) (by omega)
                omega⟩
              have hjn : j < n := by
                have := Int.emod_lt_of_pos (pk / 2) (b := (n : Int)) (by omega)
                omega
              obtain ⟨b, off, rfl, _, h0, h1, h2⟩ := hA.out.at (Below.refl _ _) hjn
              have hn0 : (0 : Int) < (n : Int) := by omega
              have hjn' : (j : Int) < (n : Int) := by omega
              go_wp2
              go_meet
              case rel => exact ⟨⟨_, rfl⟩, rfl⟩
            · have e : decide (pk % 2 = 1 ∧ 0 < n) = false := decide_eq_false q
              go_wp2
              go_meet
              case rel => exact ⟨⟨_, rfl⟩, rfl⟩
          case rest =>
            obtain ⟨⟨t, rfl⟩, rfl⟩ := hcut
            clear hT hT' hlt hk hp0 hp1
            obtain ⟨tk, htk⟩ : ∃ tk : Nat → Int, tk = fun j => (en j).task := ⟨_, rfl⟩
            have HTK := hide htk
            clear htk
            go_upto_if 62 with fail
            have hfr : RowF (w.alloc (.cells #[.string ⟨#[109, 97, 112]⟩, .int .i64 4, .bool false, .map none] 30)) w.heap.size 30 4 (fun j => (fCells none).getD j undef) := rowF_alloc w (fCells none) 30
            have hB0 : Below w.heap.size w (w.alloc (.cells #[.string ⟨#[109, 97, 112]⟩, .int .i64 4, .bool false, .map none] 30)) := (Below.refl _ _).alloc (Nat.le_refl _) _
            go_cut [] from 59 to 96 (fun wx => ∃ mv pt q, RowF wx w.heap.size 30 4 (fun j => (fCells mv).getD j undef) ∧ MapP wx mv (lookIf nm tk pt n) q ∧ (nm = false → ∀ j, j < n → TFOk wx (en j) (pt j)) ∧ (nm = true → mv = none) ∧ Below w.heap.size w wx)
            case first =>
              cases nm
              · have hmm := @run_makeMap Yba.prog
                go_wp2_with fail
                go_loopw [69] (fun i wx => ∃ m : Nat, m ≤ n ∧ i = .int .i64 m ∧ ∃ pt q, RowF wx w.heap.size 30 4 (fun j => (fCells (some (w.heap.size + 1))).getD j undef) ∧ MapF wx (w.heap.size + 1) (Value.int .i64) (fun x => (lookTo tk pt m x).map Value.pointer) q ∧ (∀ j, j < m → TFOk wx (en j) (pt j)) ∧ Below w.heap.size w wx) (fun i _ => n - (intOf i).toNat)
                case atStart =>
                  refine ⟨0, Nat.zero_le _, rfl, fun _ => none, 0, (rowF_alloc w (fCells (some (w.heap.size + 1))) 30).alloc _, ?_, fun j hj => absurd hj (Nat.not_lt_zero _), ((Below.refl _ _).alloc (Nat.le_refl _) _).alloc (by simp) _⟩
                  have := mapF_made (w.alloc (.cells (fCells (some (w.heap.size + 1))).toArray 30)) (Value.int .i64)
                  rw [World.size_alloc] at this
                  exact this
                case round =>
                  clear hfr hB0
                  rename World => wx
                  obtain ⟨m, hm, rfl, pt, q, hFr, hM, hTF, hB⟩ := hrel
                  by_cases hlt : m < n
                  · obtain ⟨b, off, rfl, hbw, h0, h1, h2⟩ := hA.out.at hB hlt
                    obtain ⟨hSk, hSn, hSb⟩ := hS.out m hlt
                    have HTF := hide hTF
                    clear hTF
                    have hf3 : (wx.alloc (.cells #[.int .i64 (en m).task, .bool (en m).absent, .slice (en m).sa (en m).sl (en m).sc] 25)).cell? ⟨w.heap.size, 3, none⟩ = some (.map (some (w.heap.size + 1))) := (hFr.alloc _).cell (by omega)
                    cases hab : (en m).absent
                    · rw [hab] at h1 hf3
                      have HAB := hide hab
                      clear hab
                      have HSN := hide hSn
                      clear hSn
                      have hSk1 : SkipA (wx.alloc (.cells #[.int .i64 (en m).task, .bool false, .slice (en m).sa (en m).sl (en m).sc] 25)).drew (en m).sa (en m).sl (en m).recs := hSk.below (hB.alloc hB.size _).drew
                      go_wp2
                      go_region_held3 (fun w' => w'.cell? ⟨w.heap.size, 3, none⟩ = some (.map (some (w.heap.size + 1))) ∧ w'.cell? ⟨wx.heap.size, 0, none⟩ = some (.int .i64 (en m).task) ∧ w'.cell? ⟨wx.heap.size, 2, none⟩ = some (.slice (en m).sa (en m).sl (en m).sc)) (go_keep)
                        ((go_at_call 4; refine (recs_any _ _ _ (en m).recs _ hSb HSN.out hSk1).mono ?_; rintro e w2 ⟨qa, d, rfl, hO, hbo⟩; obtain ⟨g3, g0, g2, n3, n0, w3, hrun, z3, z0, z2, R⟩ := call_step (by rw [HTK.out]) HAB.out hFr hM HTF.out hB hSb hO hbo; have HR := hide R; clear R hbo hO))
                      go_wp2
                      go_roundw
                      case rel => exact ⟨m + 1, by omega, by go_num, HR.out⟩
                      case measure => simp [intOf]; omega
                    · rw [hab] at h1 hf3
                      obtain ⟨w2, q2, hrun, hM2, hgr, hsz⟩ := MapF.run_update (P := Yba.prog) (w := (wx.alloc (.cells #[.int .i64 (en m).task, .bool true, .slice (en m).sa (en m).sl (en m).sc] 25)).drew) (r := w.heap.size + 1) (n := q) (look := fun x => (lookTo tk pt m x).map Value.pointer) (MapF.of_block hM (Below.heap_alloc _ _ _ hM.lt)) Yba.underlying28 Yba.underlying3 isKey_int int_inj (en m).task (.pointer none)
                      have HS2 := hide hsz
                      have HAB := hide hab
                      clear hsz hab
                      go_wp2
                      go_region
                      go_wp2
                      go_roundw
                      case rel =>
                        exact ⟨m + 1, by omega, by go_num, rel_step (by rw [HTK.out]) hFr hM HTF.out (by omega) (W1 := (wx.alloc (.cells #[.int .i64 (en m).task, .bool true, .slice (en m).sa (en m).sl (en m).sc] 25)).drew) (fun k hk => Below.heap_alloc _ _ _ hk) (hB.alloc hB.size _).drew (by unfold TFOk; rw [if_pos HAB.out]) hM2 hgr⟩
                      case measure => simp [intOf]; omega
                  · have hm' : m = n := by omega
                    subst hm'
                    go_wp2
                    go_meet
                    case rel => exact ⟨_, pt, q, hFr, hM, (fun _ => hTF), (fun h => by cases h), hB⟩
              · go_wp2
                go_meet
                case rel => exact ⟨none, fun _ => none, 0, hfr, ⟨fun _ => rfl, rfl⟩, (fun h => by cases h), (fun _ => rfl), hB0⟩
            case rest =>
              clear hfr hB0
              obtain ⟨mv, pt, q, hFr, hM, hTF, hnm, hB⟩ := hcut
              obtain ⟨W0, hW0⟩ : ∃ W0, W0 = wc := ⟨_, rfl⟩
              subst hW0
              obtain ⟨look, hlk⟩ : ∃ look, look = lookIf nm tk pt n := ⟨_, rfl⟩
              have hPO : ∀ x, PtrOk W0 ((look x).getD none) := fun x => by rw [hlk]; exact look_ptr hTF x
              have HPO := hide hPO
              clear hPO
              rw [← hlk] at hM
              have HLK := hide hlk
              have HTF := hide hTF
              have HNM := hide hnm
              clear hlk hTF hnm
              go_upto_if 98 with fail
              go_cut [14] from 97 to 124 (fun s14 wx => Rel wx ((look t).getD none) s14 ∧ Below W0.heap.size W0 wx)
              case first =>
                cases nm
                · have hlk : look = lookTo tk pt n := HLK.out
                  have HL2 := hide hlk
                  clear hlk
                  go_wp2_with fail
                  go_loop [15, 14] (fun i s14 => ∃ q : Nat, q ≤ n ∧ i = .int .i64 ((q : Int) - 1) ∧ s14 = .slice none 0 0 ∧ Hid (∀ j, q ≤ j → j < n → tk j ≠ t)) (fun i _ => ((intOf i) + 1).toNat)
                  case atStart => exact ⟨n, Nat.le_refl _, by go_num, rfl, fun j h1 h2 => by omega⟩
                  case round =>
                    obtain ⟨q, hq, rfl, rfl, hno⟩ := hrel
                    cases q with
                    | zero =>
                      go_wp2
                      go_meet
                      case rel =>
                        refine ⟨.inl ⟨?_, rfl⟩, Below.refl _ _⟩
                        rw [HL2.out, lookTo_skip tk pt t 0 n (by omega) (fun j h1 h2 => hno.out j h1 h2)]
                        rfl
                    | succ q =>
                      obtain ⟨b, off, rfl, hbw, h0, h1, h2⟩ := hA.out.at hB (j := q) (by omega)
                      obtain ⟨hSk, hSn, hSb⟩ := hS.out q (by omega)
                      have HSN := hide hSn
                      clear hSn
                      have etk : tk q = (en q).task := by rw [HTK.out]
                      have hSk1 := hSk.below hB
                      by_cases hkk : (en q).task = t
                      · have hkb : ((en q).task == t) = true := by simpa using hkk
                        have hlt1 : (look t).getD none = pt q := by
                          rw [HL2.out, lookTo_skip tk pt t (q + 1) n hq (fun j h1 h2 => hno.out j h1 h2), lookTo, if_pos (by rw [etk, hkk])]
                          rfl
                        have hTq := HTF.out (by simp) q (by omega)
                        have HLT := hide hlt1
                        have HKK := hide hkk
                        clear hlt1 hkk etk
                        cases hab : (en q).absent
                        · rw [hab] at h1
                          have hTq' : HasTF W0 (pt q) (en q).sa.isNone (en q).sl (en q).recs := by
                            unfold TFOk at hTq
                            rw [if_neg (by rw [hab]; decide)] at hTq
                            exact hTq
                          clear hab hTq
                          go_wp2_with (go_at_call 4; refine (recs_any _ _ _ (en q).recs _ hSb HSN.out hSk1).mono ?_; rintro e w2 ⟨qa, d, rfl, hO, hbo⟩)
                          go_meet
                          case rel =>
                            refine ⟨.inr ⟨(en q).sa.isNone, (en q).sl, (en q).recs, ?_, hO⟩, hbo⟩
                            rw [HLT.out]
                            exact hTq'.of_blocks (fun r hr => hbo.block r hr)
                        · rw [hab] at h1
                          have hTq' : pt q = none := by
                            unfold TFOk at hTq
                            rw [if_pos hab] at hTq
                            exact hTq
                          have HTQ := hide hTq'
                          clear hab hTq hTq'
                          go_wp2
                          go_meet
                          case rel =>
                            refine ⟨.inl ⟨?_, rfl⟩, Below.refl _ _⟩
                            rw [HLT.out, HTQ.out]
                      · have hkb : ((en q).task == t) = false := by simpa using hkk
                        have HKK := hide hkk
                        have HET := hide etk
                        clear hkk etk
                        go_wp2
                        go_round
                        case rel => exact ⟨q, by omega, rfl, rfl, fun j h1 h2 => by
                          by_cases hj : j = q
                          · subst hj; rw [HET.out]; exact HKK.out
                          · exact hno.out j (by omega) h2⟩
                        case measure => simp [intOf]
                · have hlk : look = fun _ => none := HLK.out
                  go_wp2
                  go_meet
                  case rel =>
                    refine ⟨.inl ⟨?_, rfl⟩, Below.refl _ _⟩
                    rw [hlk]
                    rfl
              case rest =>
                obtain ⟨W1, hW1⟩ : ∃ W1, W1 = wc := ⟨_, rfl⟩
                subst hW1
                obtain ⟨hWant, hb01⟩ := hcut
                have hFr1 := RowF.of_blocks hFr (fun r hr => hb01.block r hr)
                have hM1 := hM.of_blocks (fun r hr => hb01.block r hr)
                have hPO1 : ∀ x, PtrOk W1 ((look x).getD none) := fun x => (HPO.out x).of_blocks (fun r hr => hb01.block r hr)
                have hB1 : Below w.heap.size w W1 := hB.trans (hb01.mono hB.size)
                have HPO1 := hide hPO1
                have hln : nm = true → ∀ x, look x = none := fun h x => by rw [HLK.out, h]; rfl
                have HLN := hide hln
                clear hln hPO1 HPO hFr hM hB hb01 HTF HLK
                obtain ⟨P, hP⟩ : ∃ P : Nat → Option Addr, P = fun j => (look (tk j)).getD none := ⟨_, rfl⟩
                have HP := hide hP
                clear hP
                go_upto_if 132 with (first | (at_make; refine wpList_make_row rfl (.tmp 126) (.tmp 126) 38 rfl 31 (.pointer none) 8 Yba.underlying38 info31 rfl _ _ _ _ n rfl rfl rfl rfl (by omega) (by unfold maxLen; omega) (fun _ => .pointer none) (fun _ => rfl) ?_; intro gp wA hgp hsA hrp hbA) | (at_make; refine wpList_make_row rfl (.tmp 129) (.tmp 129) 39 rfl 32 (.slice none 0 0) 24 Yba.underlying39 info32 rfl _ _ _ _ n rfl rfl rfl rfl (by omega) (by unfold maxLen; omega) (fun _ => .slice none 0 0) (fun _ => rfl) ?_; intro gs wD hgs hsD hrs hbD))
                have hgps : gp < gs := by have := hgs.out; have := hrp.lt; omega
                have hgpW : W1.heap.size ≤ gp := by have := hgp.out; omega
                have hgsW : W1.heap.size ≤ gs := by omega
                have hrpD := hrp.below hbD hgps
                have hbD1 : Below W1.heap.size W1 wD := (hbA.mono hgpW).trans (hbD.mono hgsW)
                clear hgp hsA hrp hbA hgs hsD hbD
                go_cut [] from 125 to 162 (fun wx => ∃ S : Nat → Value, RowF wx gp 31 n (fun j => .pointer (P j)) ∧ RowF wx gs 32 n S ∧ (∀ j, j < n → Rel wx (P j) (S j)) ∧ Below W1.heap.size W1 wx)
                case first =>
                  cases nm
                  · go_wp2_with fail
                    go_loopw [135] (fun i wx => ∃ m : Nat, m ≤ n ∧ i = .int .i64 m ∧ RowF wx gp 31 n (fun j => if j < m then .pointer (P j) else .pointer none) ∧ (∃ S : Nat → Value, RowF wx gs 32 n (fun j => if j < m then S j else .slice none 0 0) ∧ ∀ j, j < m → Rel wx (P j) (S j)) ∧ Below W1.heap.size W1 wx) (fun i _ => n - (intOf i).toNat)
                    case atStart => exact ⟨0, Nat.zero_le _, rfl, hrpD.congr (fun j _ => by simp), ⟨fun _ => .slice none 0 0, hrs.congr (fun j _ => by simp), fun j hj => absurd hj (Nat.not_lt_zero _)⟩, hbD1⟩
                    case round =>
                      clear hrpD hrs hbD1
                      rename World => wx
                      obtain ⟨m, hm, rfl, hRp, ⟨S, hRs, hRel⟩, hbx⟩ := hrel
                      have HRel := hide hRel
                      clear hRel
                      have hBx : Below w.heap.size w wx := hB1.trans (hbx.mono hB1.size)
                      by_cases hlt : m < n
                      · obtain ⟨b, off, rfl, hbw, h0, h1, h2⟩ := hA.out.at hBx hlt
                        have hf3 : wx.cell? ⟨w.heap.size, 3, none⟩ = some (.map mv) := (RowF.of_blocks hFr1 (fun r hr => hbx.block r hr)).cell (by omega)
                        have hMx := hM1.of_blocks (w' := wx) (fun r hr => hbx.block r hr)
                        obtain ⟨pm, hpm⟩ : ∃ pm, pm = P m := ⟨_, rfl⟩
                        have ePm : (look (en m).task).getD none = pm := by rw [hpm, HP.out, HTK.out]
                        have HPM := hide hpm
                        clear hpm
                        have hl : ∀ q, (Instr.lookup 28 (.map mv) (.int .i64 (en m).task) false).run Yba.prog (wx.drewN q) = .ok (.pointer pm) (wx.drewN q) := fun q => by
                          rw [← ePm]
                          exact MapP.run_lookup (w := wx.drewN q) hMx (en m).task
                        have hl0 := hl 0
                        have cP := hRp.cell hlt
                        have fP := hRp.frozen m
                        have cS := hRs.cell hlt
                        have fS := hRs.frozen m
                        have i0 : (0 : Int) ≤ (m : Int) := by omega
                        have i1 : (m : Int) < (n : Int) := by omega
                        have hPm : PtrOk W1 pm := by rw [← ePm]; exact HPO1.out _
                        clear ePm
                        go_upto_region 36 with fail
                        go_quiet (fail)
                        generalize hwy : wx.drewN nq = wy
                        have hRp' : RowF wy gp 31 n (fun j => if j < m then .pointer (P j) else .pointer none) := by rw [← hwy]; exact hRp.drewN _
                        have hRs' : RowF wy gs 32 n (fun j => if j < m then S j else .slice none 0 0) := by rw [← hwy]; exact hRs.drewN _
                        have hRel' : ∀ j, j < m → Rel wy (P j) (S j) := fun j hj => by rw [← hwy]; exact HRel.out j hj
                        have hby : Below W1.heap.size W1 wy := by rw [← hwy]; exact below_drewN hbx _
                        have HRel2 := hide hRel'
                        clear hRel' HRel hRp hRs hbx hBx hl hl0 hMx hwy cP fP cS fS h0 h1 h2 hf3
                        have cP := hRp'.cell hlt
                        have fP := hRp'.frozen m
                        rcases hPm with rfl | ⟨nil, nn, F, bt, v, c0, rfl, hrt, hot, hnn⟩
                        · go_wp2
                          go_roundw
                          case rel => exact ⟨m + 1, by omega, by go_num, ptr_step hRp' HPM.out, snap_none hRp' hRs' HRel2.out HPM.out, hby.setCell hgpW _⟩
                          case measure => simp [intOf]; omega
                        · have hr2 := RowF.of_blocks hrt (fun r hr => hby.block r hr)
                          have ho2 := hot.of_blocks (fun r hr => hby.block r hr)
                          have cv : (wy.setCell ⟨gp, m, none⟩ (.pointer (some ⟨bt, 0, none⟩))).cell? ⟨bt, 2, none⟩ = some v := (hr2.other (hr2.ne hRp' (by decide)) _).cell (by omega)
                          have ho3 := ho2.setCell hRp' (by decide) m (.pointer (some ⟨bt, 0, none⟩))
                          go_wp2_with fail
                          refine (copy_any v nil nn F _ hnn ho3).mono ?_
                          rintro e w2 ⟨qa, d, rfl, hO, hbo⟩
                          have hkeep : ∀ r, r < (wy.setCell ⟨gp, m, none⟩ (.pointer (some ⟨bt, 0, none⟩))).heap.size → w2.heap[r]? = (wy.setCell ⟨gp, m, none⟩ (.pointer (some ⟨bt, 0, none⟩))).heap[r]? := fun r hr => hbo.block r hr
                          have hRp2 := RowF.of_blocks (ptr_step hRp' HPM.out) hkeep
                          have hRs2 := RowF.of_blocks (hRs'.other (a := ⟨gp, m, none⟩) (hRs'.ne hRp' (by decide)) (.pointer (some ⟨bt, 0, none⟩))) hkeep
                          have hRel2 : ∀ j, j < m → Rel w2 (P j) (S j) := fun j hj => ((HRel2.out j hj).setCell hRp' (by decide) (by decide) m _).of_blocks hkeep
                          have hsm : Rel w2 (P m) (.slice qa nn d) := .inr ⟨nil, nn, F, ⟨bt, v, c0, HPM.out.symm, RowF.of_blocks (hr2.other (hr2.ne hRp' (by decide)) _) hkeep, ho3.of_blocks hkeep, hnn⟩, hO⟩
                          have hby2 : Below W1.heap.size W1 w2 := (hby.setCell hgpW _).trans (hbo.mono (by simp [World.setCell]; exact hby.size))
                          have HRel3 := hide hRel2
                          have HSM := hide hsm
                          clear hkeep hRel2 hsm hbo hO HRel2 hRp' hRs' hr2 ho2 cv ho3 cP fP
                          have cS := hRs2.cell hlt
                          have fS := hRs2.frozen m
                          go_wp2
                          go_roundw
                          case rel => exact ⟨m + 1, by omega, by go_num, hRp2.other (hRp2.ne hRs2 (by decide)) _, snap_some hRs2 HRel3.out HSM.out, hby2.setCell hgsW _⟩
                          case measure => simp [intOf]; omega
                      · have hm' : m = n := by omega
                        subst hm'
                        go_wp2
                        go_meet
                        case rel => exact ⟨S, hRp.congr (fun j hj => by rw [if_pos hj]), hRs.congr (fun j hj => by rw [if_pos hj]), HRel.out, hbx⟩
                  · have hPn : ∀ j, P j = none := fun j => by rw [HP.out]; simp only []; rw [HLN.out (by simp)]; rfl
                    go_wp2
                    go_meet
                    case rel => exact ⟨fun _ => .slice none 0 0, hrpD.congr (fun j _ => by rw [hPn]), hrs, fun j _ => .inl ⟨hPn j, rfl⟩, hbD1⟩
                case rest =>
                  clear hrpD hrs hbD1
                  obtain ⟨W3, hW3⟩ : ∃ W3, W3 = wc := ⟨_, rfl⟩
                  subst hW3
                  obtain ⟨S, hRp, hRs, hRel, hb13⟩ := hcut
                  have hFr3 := RowF.of_blocks hFr1 (fun r hr => hb13.block r hr)
                  have hM3 := hM1.of_blocks (fun r hr => hb13.block r hr)
                  have hPO3 : PtrOk W3 ((look t).getD none) := (HPO1.out t).of_blocks (fun r hr => hb13.block r hr)
                  have hWant3 := hWant.of_blocks (fun r hr => hb13.block r hr)
                  have hB3 : Below w.heap.size w W3 := hB1.trans (hb13.mono hB1.size)
                  have HRel := hide hRel
                  clear hRel HPO1 hFr1 hM1 hWant hB1 hb13 hgpW hgsW hgps
                  have hf3 : W3.cell? ⟨w.heap.size, 3, none⟩ = some (.map mv) := hFr3.cell (by omega)
                  have hln := hM3.run_len 3
                  go_wp2_with fail
                  refine (watch_any w.heap.size t mv look q W3 hf3 hM3 hPO3).mono ?_
                  rintro e w5 ⟨qa, nn, d, rfl, hRw, hfresh, hb5⟩
                  go_upto_region 45 with fail
                  have hal : ∀ r, r < w5.heap.size → (w5.alloc (.cells #[.slice qa nn d, .pointer none, .pointer none] 44)).heap[r]? = w5.heap[r]? := fun r hr => Below.heap_alloc _ _ _ hr
                  obtain ⟨nil, n6, F6, o1, o2, hn6⟩ := (hRw.of_blocks hal).same ((hWant3.of_blocks (fun r hr => hb5.block r hr)).of_blocks hal)
                  have hb6 : Below W3.heap.size W3 (w5.alloc (.cells #[.slice qa nn d, .pointer none, .pointer none] 44)) := hb5.alloc hb5.size _
                  have hne5 := hb5.size
                  clear hal hRw hWant3 hb5
                  go_wp2_with fail
                  refine (eq_any _ _ nil n6 F6 _ hn6 o1 o2).mono ?_
                  rintro e w7 ⟨rfl, q7, hw7⟩
                  have o7 : OwnRec w7 (.slice qa nn d) nil n6 F6 := by rw [hw7]; exact o1
                  have hb7 : Below W3.heap.size W3 w7 := by rw [hw7]; exact below_drewN hb6 _
                  have c7 : w7.cell? ⟨w5.heap.size, 0, none⟩ = some (.slice qa nn d) := by
                    rw [hw7]
                    show (w5.alloc _).cell? _ = _
                    simp
                  have e7 : w7.heap[w5.heap.size]? = some (.cells #[.slice qa nn d, .pointer none, .pointer none] 44) := by
                    rw [hw7]
                    exact heap_alloc_new w5 _
                  have E7 := hide e7
                  clear o1 o2 hb6 hw7 e7
                  go_upto_if 187 with fail
                  go_cut [] from 163 to 207 (fun wz => Below W3.heap.size W3 wz)
                  case first =>
                    by_cases hnn : 0 < nn
                    · have hnn' : (0 : Int) < (nn : Int) := by omega
                      cases nil with
                      | true => exact absurd o7.1 (by simp; intro _ h; omega)
                      | false =>
                        obtain ⟨g, c', eo, hc', hrP⟩ := o7
                        simp only [Value.slice.injEq] at eo
                        obtain ⟨rfl, rfl, rfl⟩ := eo
                        have r0 : w7.cell? ⟨g, 0, none⟩ = some (.string (F6 0).file) := hrP.cell (by omega)
                        have r1 : w7.cell? ⟨g, 1, none⟩ = some (.int .i64 (F6 0).off) := hrP.cell (by omega)
                        have r2 : w7.cell? ⟨g, 2, none⟩ = some (.string (F6 0).key) := hrP.cell (by omega)
                        have f0 := hrP.frozen 0
                        have f1 := hrP.frozen 1
                        have f2 := hrP.frozen 2
                        have hgW : W3.heap.size ≤ g := hfresh ⟨g, 0, none⟩ rfl
                        have hg5 : g ≠ w5.heap.size := by
                          rintro rfl
                          obtain ⟨cs, hcs, _⟩ := hrP
                          rw [E7.out] at hcs
                          simp at hcs
                        go_wp2
                        go_region
                        go_wp2
                        go_meet
                        case rel => exact (((hb7.setCell hgW _).setCell hgW _).setCell hgW _).drew
                    · have hnn' : ¬ (0 : Int) < (nn : Int) := by omega
                      go_wp2
                      go_meet
                      case rel => exact hb7
                  case rest =>
                    obtain ⟨W8, hW8⟩ : ∃ W8, W8 = wc := ⟨_, rfl⟩
                    subst hW8
                    have hb8 : Below W3.heap.size W3 W8 := hcut
                    clear hcut o7 hb7 c7 E7 hfresh hln hf3
                    have hf8 : W8.cell? ⟨w.heap.size, 3, none⟩ = some (.map mv) := (RowF.of_blocks hFr3 (fun r hr => hb8.block r hr)).cell (by omega)
                    have hln8 := (hM3.of_blocks (w' := W8) (fun r hr => hb8.block r hr)).run_len 3
                    have hnmv : ∀ w, (binOp .neq 28 (.map mv) (.map none)).run Yba.prog w = .ok (.bool (!mv.isNone)) w := fun w => run_neq_map_nil (P := Yba.prog) w 28 _ _ mv Yba.underlying28
                    go_upto_region 51 with fail
                    go_cut [222] from 208 to 222 (fun s222 wz => s222 = .bool false ∧ W8 = wz)
                    case first =>
                      cases nm
                      · go_wp2
                        go_meet
                        case rel => exact ⟨rfl, rfl⟩
                      · have hmv : mv = none := HNM.out (by simp)
                        subst hmv
                        go_wp2
                        go_meet
                        case rel => exact ⟨rfl, rfl⟩
                    case rest =>
                      obtain ⟨rfl, rfl⟩ := hcut
                      clear hln8 hnmv hf8
                      go_wp2_with fail
                      go_loopw [225] (fun i wy => ∃ m : Nat, m ≤ n ∧ i = .int .i64 m ∧ Below W3.heap.size W3 wy) (fun i _ => n - (intOf i).toNat)
                      case atStart => exact ⟨0, Nat.zero_le _, rfl, hb8⟩
                      case round =>
                        clear hb8
                        rename World => wy
                        obtain ⟨m, hm, rfl, hby⟩ := hrel
                        have hBy : Below w.heap.size w wy := hB3.trans (hby.mono hB3.size)
                        by_cases hlt : m < n
                        · obtain ⟨b, off, rfl, hbw, h0, h1, h2⟩ := hA.out.at hBy hlt
                          have hf3 : wy.cell? ⟨w.heap.size, 3, none⟩ = some (.map mv) := (RowF.of_blocks hFr3 (fun r hr => hby.block r hr)).cell (by omega)
                          have hMy := hM3.of_blocks (w' := wy) (fun r hr => hby.block r hr)
                          obtain ⟨pm, hpm⟩ : ∃ pm, pm = P m := ⟨_, rfl⟩
                          have ePm : (look (en m).task).getD none = pm := by rw [hpm, HP.out, HTK.out]
                          have hl : ∀ q, (Instr.lookup 28 (.map mv) (.int .i64 (en m).task) false).run Yba.prog (wy.drewN q) = .ok (.pointer pm) (wy.drewN q) := fun q => by
                            rw [← ePm]
                            exact MapP.run_lookup (w := wy.drewN q) hMy (en m).task
                          have cP : wy.cell? ⟨gp, m, none⟩ = some (.pointer pm) := by rw [hpm]; exact (RowF.of_blocks hRp (fun r hr => hby.block r hr)).cell hlt
                          have cS : wy.cell? ⟨gs, m, none⟩ = some (S m) := (RowF.of_blocks hRs (fun r hr => hby.block r hr)).cell hlt
                          have hRm : Rel wy pm (S m) := by rw [hpm]; exact (HRel.out m hlt).of_blocks (fun r hr => hby.block r hr)
                          have hps := neq_ptr_self pm
                          have i0 : (0 : Int) ≤ (m : Int) := by omega
                          have i1 : (m : Int) < (n : Int) := by omega
                          clear hpm ePm hMy
                          go_upto_region 56 with fail
                          go_quiet (fail)
                          go_upto_region 58 with fail
                          generalize hwz : wy.drewN nq = wz
                          have cP : wz.cell? ⟨gp, m, none⟩ = some (.pointer pm) := by rw [← hwz]; exact cP
                          have cS : wz.cell? ⟨gs, m, none⟩ = some (S m) := by rw [← hwz]; exact cS
                          have hRm : Rel wz pm (S m) := by rw [← hwz]; exact hRm
                          have hbz : Below W3.heap.size W3 wz := by rw [← hwz]; exact below_drewN hby _
                          clear hwz hby hl hf3 h0 h1 h2
                          rcases hRm with ⟨rfl, hS0⟩ | ⟨nil, nn2, F2, ⟨bt, v, c0, rfl, hrt, hov, hn2⟩, hoS⟩
                          · clear hS0
                            go_quiet (fail)
                            go_wp2
                            go_roundw
                            case rel => exact ⟨m + 1, by omega, by go_num, below_drewN hbz _⟩
                            case measure => simp [intOf]; omega
                          · have cv : wz.cell? ⟨bt, 2, none⟩ = some v := hrt.cell (by omega)
                            go_quiet ((go_at_call 7; exact Calls.quiet_of (eq_any v (S m) nil nn2 F2 _ hn2 (by exact hov) (by exact hoS))))
                            go_wp2
                            go_roundw
                            case rel => exact ⟨m + 1, by omega, by go_num, below_drewN hbz _⟩
                            case measure => simp [intOf]; omega
                        · go_wp2
                          go_ret
                          exact ⟨rfl, hBy⟩
end Go.Proofs.Ybulkdtse.lawS6023AWhole
