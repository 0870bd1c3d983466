import Derived.Test.YbulkdtoyParts
namespace Go.Proofs.Ybulkdtoy.lawS6017BWhole
open Go.RowKit Go.Proofs.Ybulkdtoy.Own

set_option maxRecDepth 100000 in
set_option maxHeartbeats 4000000 in
theorem law_core (nr : Bool) (ak : Option Addr) (nk ck : Nat) (kf : Nat → ByteArray) (an : Option Addr) (nn cn : Nat) (nf : Nat → ByteArray) (al : Option Addr) (nl cl : Nat) (lf : Nat → Bool) (aty : Option Addr) (nt ct : Nat) (tf : Nat → Int) (key : ByteArray) (w : World)
    (hnk : nk ≤ 1048576) (htf : Hid (∀ j, j < nt → 0 ≤ tf j ∧ tf j ≤ 255)) (hK : Hid (ArgV w ak nk (fun j => .string (kf j)))) (hN : Hid (ArgV w an nn (fun j => .string (nf j)))) (hL : Hid (ArgV w al nl (fun j => .bool (lf j)))) (hT : Hid (ArgV w aty nt (fun j => .int .u8 (tf j))))
    (kb : Bool) (hkb : Hid ((!ak.isNone) = kb)) (hk0 : Hid (kb = false → nk = 0)) :
    Calls Yba.prog 3 #[.bool nr, .slice ak nk ck, .slice an nn cn, .slice al nl cl, .slice aty nt ct, .string key] w fun e w' => e = .returned (.bool true) ∧ Below w.heap.size w w' := by
  have hnk1 := fun w => (run_neq_slice_nil_any (P := Yba.prog) w 22 9 ak nk ck 0 0 Yba.underlying22).trans (by rw [hkb.out])
  have hd1 : decide ((1048576 : Int) < (nk : Int)) = false := decide_eq_false (by omega)
  go_enter Yba.func3, Yba.ntmps3
  obtain ⟨F, hF⟩ : ∃ F, F = elsF (some ⟨w.heap.size, 0, none⟩) (some ⟨w.heap.size + 1, 0, none⟩) (some ⟨w.heap.size + 2, 0, none⟩) nn nf kf nt tf nl lf := ⟨_, rfl⟩
  have HF := hide hF
  clear hF
  go_wp2_with (at_make; refine wpList_make_rows rfl _ _ 32 rfl 35 _ 3 32 Yba.underlying32 info35 _ _ _ _ nk rfl rfl rfl rfl (by omega) (by unfold maxLen; omega) (elCell (upTo F 0)) (row_start F) ?_)
  intro g1 w1 hg1 hs1 hrow hb
  have hB1 : Below w.heap.size w w1 := by
    have h3 := (((Below.refl w.heap.size w).alloc (Nat.le_refl _) (.cells #[.string ⟨#[70, 72, 73, 82]⟩, .string ⟨#[97]⟩, .int .u8 3, .bool false, .pointer none, .string ⟨#[]⟩, .pointer none, .map none, .slice none 0 0, .slice none 0 0] 31)).alloc (by simp) (.cells #[.string ⟨#[70, 72, 73, 82]⟩, .string ⟨#[98]⟩, .int .u8 2, .bool false, .pointer none, .string ⟨#[]⟩, .pointer none, .map none, .slice none 0 0, .slice none 0 0] 31)).alloc (by simp; omega) (.cells #[.string ⟨#[83, 121, 115, 116, 101, 109]⟩, .string ⟨#[99]⟩, .int .u8 1, .bool false, .pointer none, .string ⟨#[]⟩, .pointer none, .map none, .slice none 0 0, .slice none 0 0] 31)
    exact h3.trans (hb.mono (by have := hg1.out; omega))
  have hg1w : w.heap.size ≤ g1 := by have := hg1.out; omega
  clear hb hs1 hg1
  go_wp2_with fail
  go_loopw [18] (fun i wr => ∃ k : Nat, k ≤ nk ∧ i = .int .i64 k ∧ RowF wr g1 35 (nk * 3) (elCell (upTo F k)) ∧ Below w.heap.size w wr) (fun i _ => nk - (intOf i).toNat)
  case atStart => exact ⟨0, Nat.zero_le _, rfl, hrow, hB1⟩
  case round =>
    clear hrow hB1
    obtain ⟨k, hk, rfl, hR, hB⟩ := hrel
    by_cases hlt : k < nk
    · obtain ⟨b, off, rfl, _, hck⟩ := hK.out.at hB hlt
      have c0 := hR.cell (j := k * 3) (by omega)
      have c1 := hR.cell (j := k * 3 + 1) (by omega)
      have c2 := hR.cell (j := k * 3 + 2) (by omega)
      have f0 := hR.frozen (k * 3)
      have f1 := hR.frozen (k * 3 + 1)
      have f2 := hR.frozen (k * 3 + 2)
      by_cases h1 : k < nn
      · obtain ⟨b1, off1, rfl, _, hcn⟩ := hN.out.at hB h1
        by_cases h2 : k < nl
        · obtain ⟨b2, off2, rfl, _, hcl⟩ := hL.out.at hB h2
          by_cases h3 : k < nt
          · obtain ⟨b3, off3, rfl, _, hct⟩ := hT.out.at hB h3
            obtain ⟨t0, t1⟩ := htf.out k h3
            go_wp2_with (go_at_call 4; refine (typ_any _ _ _ _ _ t0 t1).mono ?_; rintro e w' ⟨rfl, rfl⟩)
            go_roundw
            case rel => exact ⟨k + 1, by omega, by go_num, row_step hR (by rw [HF.out]; simp [elsF, h1]) (by rw [HF.out]; simp [elsF, h3]) (by rw [HF.out]; simp [elsF, h2]), ((hB.setCell hg1w _).setCell hg1w _).setCell hg1w _⟩
            case measure => simp [intOf]; omega
          · have h3' : ¬ (k : Int) < (nt : Int) := by omega
            go_wp2_with (go_at_call 4; refine (typ_any _ _ _ _ _ (by omega) (by omega)).mono ?_; rintro e w' ⟨rfl, rfl⟩)
            go_roundw
            case rel => exact ⟨k + 1, by omega, by go_num, row_step hR (by rw [HF.out]; simp [elsF, h1]) (by rw [HF.out]; simp [elsF, h3]) (by rw [HF.out]; simp [elsF, h2]), ((hB.setCell hg1w _).setCell hg1w _).setCell hg1w _⟩
            case measure => simp [intOf]; omega
        · have h2' : ¬ (k : Int) < (nl : Int) := by omega
          by_cases h3 : k < nt
          · obtain ⟨b3, off3, rfl, _, hct⟩ := hT.out.at hB h3
            obtain ⟨t0, t1⟩ := htf.out k h3
            go_wp2_with (go_at_call 4; refine (typ_any _ _ _ _ _ t0 t1).mono ?_; rintro e w' ⟨rfl, rfl⟩)
            go_roundw
            case rel => exact ⟨k + 1, by omega, by go_num, row_step hR (by rw [HF.out]; simp [elsF, h1]) (by rw [HF.out]; simp [elsF, h3]) (by rw [HF.out]; simp [elsF, h2]), ((hB.setCell hg1w _).setCell hg1w _).setCell hg1w _⟩
            case measure => simp [intOf]; omega
          · have h3' : ¬ (k : Int) < (nt : Int) := by omega
            go_wp2_with (go_at_call 4; refine (typ_any _ _ _ _ _ (by omega) (by omega)).mono ?_; rintro e w' ⟨rfl, rfl⟩)
            go_roundw
            case rel => exact ⟨k + 1, by omega, by go_num, row_step hR (by rw [HF.out]; simp [elsF, h1]) (by rw [HF.out]; simp [elsF, h3]) (by rw [HF.out]; simp [elsF, h2]), ((hB.setCell hg1w _).setCell hg1w _).setCell hg1w _⟩
            case measure => simp [intOf]; omega
      · have h1' : ¬ (k : Int) < (nn : Int) := by omega
        by_cases h2 : k < nl
        · obtain ⟨b2, off2, rfl, _, hcl⟩ := hL.out.at hB h2
          by_cases h3 : k < nt
          · obtain ⟨b3, off3, rfl, _, hct⟩ := hT.out.at hB h3
            obtain ⟨t0, t1⟩ := htf.out k h3
            go_wp2_with (go_at_call 4; refine (typ_any _ _ _ _ _ t0 t1).mono ?_; rintro e w' ⟨rfl, rfl⟩)
            go_roundw
            case rel => exact ⟨k + 1, by omega, by go_num, row_step hR (by rw [HF.out]; simp [elsF, h1]) (by rw [HF.out]; simp [elsF, h3]) (by rw [HF.out]; simp [elsF, h2]), ((hB.setCell hg1w _).setCell hg1w _).setCell hg1w _⟩
            case measure => simp [intOf]; omega
          · have h3' : ¬ (k : Int) < (nt : Int) := by omega
            go_wp2_with (go_at_call 4; refine (typ_any _ _ _ _ _ (by omega) (by omega)).mono ?_; rintro e w' ⟨rfl, rfl⟩)
            go_roundw
            case rel => exact ⟨k + 1, by omega, by go_num, row_step hR (by rw [HF.out]; simp [elsF, h1]) (by rw [HF.out]; simp [elsF, h3]) (by rw [HF.out]; simp [elsF, h2]), ((hB.setCell hg1w _).setCell hg1w _).setCell hg1w _⟩
            case measure => simp [intOf]; omega
        · have h2' : ¬ (k : Int) < (nl : Int) := by omega
          by_cases h3 : k < nt
          · obtain ⟨b3, off3, rfl, _, hct⟩ := hT.out.at hB h3
            obtain ⟨t0, t1⟩ := htf.out k h3
            go_wp2_with (go_at_call 4; refine (typ_any _ _ _ _ _ t0 t1).mono ?_; rintro e w' ⟨rfl, rfl⟩)
            go_roundw
            case rel => exact ⟨k + 1, by omega, by go_num, row_step hR (by rw [HF.out]; simp [elsF, h1]) (by rw [HF.out]; simp [elsF, h3]) (by rw [HF.out]; simp [elsF, h2]), ((hB.setCell hg1w _).setCell hg1w _).setCell hg1w _⟩
            case measure => simp [intOf]; omega
          · have h3' : ¬ (k : Int) < (nt : Int) := by omega
            go_wp2_with (go_at_call 4; refine (typ_any _ _ _ _ _ (by omega) (by omega)).mono ?_; rintro e w' ⟨rfl, rfl⟩)
            go_roundw
            case rel => exact ⟨k + 1, by omega, by go_num, row_step hR (by rw [HF.out]; simp [elsF, h1]) (by rw [HF.out]; simp [elsF, h3]) (by rw [HF.out]; simp [elsF, h2]), ((hB.setCell hg1w _).setCell hg1w _).setCell hg1w _⟩
            case measure => simp [intOf]; omega
    · have hk' : k = nk := by omega
      subst hk'
      have hR1 := upTo_all hR
      clear hR hlt
      go_upto_if 91 with fail
      go_cut [22, 23] from 90 to 111 (fun s22 s23 wx => ∃ tp mv n, s22 = .pointer tp ∧ s23 = .map mv ∧ TOk nr tp mv wx ∧ MapE wx mv (lookIf nr kf F k) n ∧ RowF wx g1 35 (k * 3) (elCell F) ∧ Below w.heap.size w wx)
      case first =>
        cases nr
        · cases kb
          · obtain rfl := hk0.out rfl
            go_wp2
            go_meet
            case rel => exact ⟨_, none, 0, rfl, rfl, ⟨_, rfl, rowF_alloc wr (tCells none) 31⟩, ⟨fun _ => rfl, rfl⟩, hR1.alloc _, hB.alloc hB.size _⟩
          · have hmm := @run_makeMap Yba.prog
            go_wp2_with fail
            have hM0 : MapF (wr.alloc (.map #[] 0)) wr.heap.size Value.string (fun x => (lookTo kf F 0 x).map El.val) 0 := mapF_made wr Value.string
            go_loopw [24] (fun i wx => ∃ m : Nat, m ≤ k ∧ i = .int .i64 m ∧ (∃ n, MapF wx wr.heap.size Value.string (fun x => (lookTo kf F m x).map El.val) n) ∧ RowF wx g1 35 (k * 3) (elCell F) ∧ Below w.heap.size w wx) (fun i _ => k - (intOf i).toNat)
            case atStart => exact ⟨0, Nat.zero_le _, rfl, ⟨0, hM0⟩, hR1.alloc _, hB.alloc hB.size _⟩
            case round =>
              rename World => wx
              obtain ⟨m, hm, rfl, ⟨n, hM⟩, hR, hB2⟩ := hrel
              by_cases hlt : m < k
              · obtain ⟨b, off, rfl, _, hck⟩ := hK.out.at hB2 hlt
                have c0 := hR.cell (j := m * 3) (by omega)
                have c1 := hR.cell (j := m * 3 + 1) (by omega)
                have c2 := hR.cell (j := m * 3 + 2) (by omega)
                rw [elCell_0] at c0
                rw [elCell_1] at c1
                rw [elCell_2] at c2
                obtain ⟨w2, n2, hrun, hM2, hgr, hsz⟩ := MapF.run_update (P := Yba.prog) (w := wx.drew) (r := wr.heap.size) (n := n) (look := fun x => (lookTo kf F m x).map El.val) hM Yba.underlying27 Yba.underlying9 isKey_str str_inj (kf m) (F m).val
                simp only [El.val] at hrun
                have i0 : (0 : Int) ≤ (m : Int) := by omega
                have i1 : (m : Int) < (k : Int) := by omega
                have hne : wr.heap.size ≠ g1 := hM.ne_row hR
                have HS := hide hsz
                clear hsz
                go_wp2
                go_region
                go_wp2
                go_roundw
                case rel => exact ⟨m + 1, by omega, by go_num, ⟨n2, look_step hM2⟩, hR.of_block (hgr.block g1 hR.lt (by simp; exact fun e => hne e.symm)), hB2.drew.grown hgr hB2.size (fun q hq => by cases hq; exact hB.size)⟩
                case measure => simp [intOf]; omega
              · have hk' : m = k := by omega
                subst hk'
                go_wp2
                go_meet
                case rel => exact ⟨_, some wr.heap.size, n, rfl, rfl, ⟨_, rfl, rowF_alloc wx (tCells (some wr.heap.size)) 31⟩, MapF.of_block hM (Below.heap_alloc _ _ _ hM.lt), hR.alloc _, hB2.alloc hB2.size _⟩
        · go_wp2
          go_meet
          case rel => exact ⟨_, none, 0, rfl, rfl, rfl, ⟨fun _ => rfl, rfl⟩, hR1, hB⟩
      case rest =>
        clear hR1 hB
        obtain ⟨tp, mv, n, rfl, rfl, hTk, hM, hR1, hB⟩ := hcut
        obtain ⟨look, hlk⟩ : ∃ look, look = lookIf nr kf F k := ⟨_, rfl⟩
        rw [← hlk] at hM
        have HLK := hide hlk
        clear hlk
        obtain ⟨B, hBf⟩ : ∃ B : Nat → El, B = fun j => (look (kf j)).getD elZ := ⟨_, rfl⟩
        have HBF := hide hBf
        clear hBf
        go_wp2_with (at_make; refine wpList_make_rows rfl _ _ 32 rfl 35 _ 3 32 Yba.underlying32 info35 _ _ _ _ k rfl rfl rfl rfl (by omega) (by unfold maxLen; omega) (elCell (upTo B 0)) (row_start B) ?_)
        intro g3 w3 hg3 hs3 hrow3 hb3
        have hbl : ∀ wx, Below g3 wc wx → ∀ r, r < wc.heap.size → wx.heap[r]? = wc.heap[r]? := fun wx h r hr => h.block r (by have := hg3.out; omega)
        have HBL := hide hbl
        clear hbl hs3
        go_wp2_with fail
        go_loopw [26] (fun i wx => ∃ m : Nat, m ≤ k ∧ i = .int .i64 m ∧ RowF wx g3 35 (k * 3) (elCell (upTo B m)) ∧ Below g3 wc wx) (fun i _ => k - (intOf i).toNat)
        case atStart => exact ⟨0, Nat.zero_le _, rfl, hrow3, hb3⟩
        case round =>
          clear hrow3 hb3
          rename World => wx
          obtain ⟨m, hm, rfl, hR3, hb3⟩ := hrel
          have hMx := hM.of_blocks (unhide HBL wx hb3)
          have hBx : Below w.heap.size w wx := hB.trans (hb3.mono (by have := hg3.out; have := hB.size; omega))
          by_cases hlt : m < k
          · obtain ⟨b, off, rfl, _, hck⟩ := hK.out.at hBx hlt
            have c0 := hR3.cell (j := m * 3) (by omega)
            have c1 := hR3.cell (j := m * 3 + 1) (by omega)
            have c2 := hR3.cell (j := m * 3 + 2) (by omega)
            have f0 := hR3.frozen (m * 3)
            have f1 := hR3.frozen (m * 3 + 1)
            have f2 := hR3.frozen (m * 3 + 2)
            have hl := hMx.run_lookup (kf m)
            simp only [El.val] at hl
            go_wp2
            go_roundw
            case rel => exact ⟨m + 1, by omega, by go_num, row_step hR3 (by rw [HBF.out]) (by rw [HBF.out]) (by rw [HBF.out]), ((hb3.setCell (Nat.le_refl _) _).setCell (Nat.le_refl _) _).setCell (Nat.le_refl _) _⟩
            case measure => simp [intOf]; omega
          · have hk' : m = k := by omega
            subst hk'
            have hR4 := upTo_all hR3
            clear hR3 hlt
            have hln := hMx.run_len 3
            go_upto_if 133 with fail
            have hW := rowF_alloc wx [.string key, .pointer none, .bool false] 35
            go_cut [] from 128 to 149 (fun wz => RowF wz wx.heap.size 35 3 (elCell fun _ => (look key).getD ⟨key, none, false⟩) ∧ Below wx.heap.size wx wz)
            case first =>
              have hB0 : Below wx.heap.size wx (wx.alloc (.cells #[.string key, .pointer none, .bool false] 35)) := (Below.refl _ _).alloc (Nat.le_refl _) _
              cases nr
              · have hlk : look = lookTo kf F m := HLK.out
                have HL2 := hide hlk
                clear hlk
                go_wp2_with fail
                go_loop [29] (fun i => ∃ q : Nat, q ≤ m ∧ i = .int .i64 ((q : Int) - 1) ∧ Hid (∀ j, q ≤ j → j < m → kf j ≠ key)) (fun i => ((intOf i) + 1).toNat)
                case atStart => exact ⟨m, Nat.le_refl _, by go_num, fun j h1 h2 => by omega⟩
                case round =>
                  obtain ⟨q, hq, rfl, hno⟩ := hrel
                  cases q with
                  | zero =>
                    go_wp2
                    go_meet
                    case rel => 
                      refine ⟨?_, hB0⟩
                      have e : (look key).getD ⟨key, none, false⟩ = ⟨key, none, false⟩ := by
                        rw [HL2.out, lookTo_skip kf F key 0 m (by omega) (fun j h1 h2 => hno.out j h1 h2)]
                        rfl
                      rw [e]
                      exact want_row hW
                  | succ q =>
                    obtain ⟨b, off, rfl, hbw, hck⟩ := hK.out.at (wr := wx.alloc (.cells #[.string key, .pointer none, .bool false] 35)) (hBx.alloc hBx.size _) (j := q) (by omega)
                    by_cases hkk : kf q = key
                    · have hkb1 : ((kf q).toList == key.toList) = true := by rw [hkk]; simp
                      have hRz : RowF (wx.alloc (.cells #[.string key, .pointer none, .bool false] 35)) g1 35 (m * 3) (elCell F) := (RowF.of_blocks hR1 (unhide HBL wx hb3)).alloc _
                      have c0 := hRz.cell (j := q * 3) (by omega)
                      have c1 := hRz.cell (j := q * 3 + 1) (by omega)
                      have c2 := hRz.cell (j := q * 3 + 2) (by omega)
                      rw [elCell_0] at c0
                      rw [elCell_1] at c1
                      rw [elCell_2] at c2
                      have HKK := hide hkk
                      clear hkk
                      go_wp2
                      go_meet
                      case rel =>
                        refine ⟨?_, (Below.refl _ _).alloc (Nat.le_refl _) _⟩
                        have e : (look key).getD ⟨key, none, false⟩ = F q := by
                          rw [HL2.out, lookTo_skip kf F key (q + 1) m hq (fun j h1 h2 => hno.out j h1 h2), lookTo, if_pos HKK.out.symm]
                          rfl
                        rw [e]
                        exact want_row (rowF_alloc wx [.string (F q).name, .pointer (F q).typ, .bool (F q).list] 35)
                    · have hkb1 := toList_ne hkk
                      have HKK := hide hkk
                      clear hkk
                      go_wp2
                      go_round
                      case rel => exact ⟨q, by omega, rfl, fun j h1 h2 => by
                        by_cases hj : j = q
                        · subst hj; exact HKK.out
                        · exact hno.out j (by omega) h2⟩
                      case measure => simp [intOf]
              · have hlk : look = fun _ => none := HLK.out
                go_wp2
                go_meet
                case rel =>
                  refine ⟨?_, hB0⟩
                  rw [hlk]
                  exact want_row hW
            case rest =>
              rename World => wz
              obtain ⟨hWz, hbz⟩ := hcut
              have hnr : nr = true → ∀ x, look x = none := by
                intro h x
                rw [HLK.out, h]
                rfl
              have HNR := hide hnr
              clear hnr hln
              have hz1 : ∀ r, r < wx.heap.size → wz.heap[r]? = wx.heap[r]? := fun r hr => hbz.block r hr
              have HZ1 := hide hz1
              clear hz1
              have hMz := hMx.of_blocks (unhide HZ1)
              have hTz := (hTk.of_blocks (unhide HBL wx hb3)).of_blocks (unhide HZ1)
              have hR4z := RowF.of_blocks hR4 (unhide HZ1)
              have hBz : Below w.heap.size w wz := hBx.trans (hbz.mono hBx.size)
              clear hMx hR4 hW
              go_wp2_with fail
              refine (elem_any nr tp key mv look n wz hTz hMz (unhide HNR)).mono ?_
              rintro e w5 ⟨rfl, hb5⟩
              obtain ⟨E, hE⟩ : ∃ E, E = (look key).getD ⟨key, none, false⟩ := ⟨_, rfl⟩
              rw [← hE]
              rw [← hE] at hWz
              have HE := hide hE
              clear hE
              simp only [El.val]
              obtain ⟨W6, hW6⟩ : ∃ W6, W6 = w5.alloc (.cells #[.string E.name, .pointer E.typ, .bool E.list] 35) := ⟨_, rfl⟩
              have hz2 : ∀ r, r < wz.heap.size → W6.heap[r]? = wz.heap[r]? := fun r hr => by
                rw [hW6, Below.heap_alloc _ _ _ (Nat.lt_of_lt_of_le hr hb5.size), hb5.block r hr]
              have HZ2 := hide hz2
              clear hz2
              have hB6 : Below w.heap.size w W6 := by
                rw [hW6]
                exact (hBz.trans (hb5.mono hBz.size)).alloc (Nat.le_trans hBz.size hb5.size) _
              have hM6 := hMz.of_blocks (unhide HZ2)
              have hT6 := hTz.of_blocks (unhide HZ2)
              have hR6 := RowF.of_blocks hR4z (unhide HZ2)
              have hW6z := RowF.of_blocks hWz (unhide HZ2)
              have d0 : W6.cell? ⟨wx.heap.size, 0, none⟩ = some (.string E.name) := hW6z.cell (by omega)
              have d1 : W6.cell? ⟨wx.heap.size, 1, none⟩ = some (.pointer E.typ) := hW6z.cell (by omega)
              have d2 : W6.cell? ⟨wx.heap.size, 2, none⟩ = some (.bool E.list) := hW6z.cell (by omega)
              have hln := hM6.run_len 3
              clear hMz hTz hR4z hWz hW6z
              rw [hW6] at d0 d1 d2 hln
              have HW6 := hide hW6
              clear hW6
              have hps := neq_ptr_self E.typ
              go_wp2_with fail
              go_loopw [31] (fun i wy => ∃ q : Nat, q ≤ m ∧ i = .int .i64 q ∧ Below W6.heap.size W6 wy) (fun i _ => m - (intOf i).toNat)
              case atStart => exact ⟨0, Nat.zero_le _, rfl, HW6.out ▸ Below.refl _ _⟩
              case round =>
                clear d0 d1 d2 hln hps
                rename World => wy
                obtain ⟨q, hq, rfl, hby⟩ := hrel
                have hBy : Below w.heap.size w wy := hB6.trans (hby.mono hB6.size)
                by_cases hlt : q < m
                · obtain ⟨b, off, rfl, hbw, hck⟩ := hK.out.at hBy hlt
                  have hl := (hM6.of_blocks (fun r hr => hby.block r hr)).run_lookup (kf q)
                  have eB : (look (kf q)).getD elZ = B q := by rw [HBF.out]
                  rw [eB] at hl
                  clear eB
                  simp only [El.val] at hl
                  have hRy : RowF (wy.alloc (.cells #[.string (B q).name, .pointer (B q).typ, .bool (B q).list] 35)) g3 35 (m * 3) (elCell B) := (RowF.of_blocks hR6 (fun r hr => hby.block r hr)).alloc _
                  have c0 := hRy.cell (j := q * 3) (by omega)
                  have c1 := hRy.cell (j := q * 3 + 1) (by omega)
                  have c2 := hRy.cell (j := q * 3 + 2) (by omega)
                  rw [elCell_0] at c0
                  rw [elCell_1] at c1
                  rw [elCell_2] at c2
                  have hps := neq_ptr_self (B q).typ
                  have i0 : (0 : Int) ≤ (q : Int) := by omega
                  have i1 : (q : Int) < (m : Int) := by omega
                  go_wp2
                  go_quiet (fail)
                  go_wp2
                  go_roundw
                  case rel => exact ⟨q + 1, by omega, by go_num, below_drewN (hby.alloc hby.size _) _⟩
                  case measure => simp [intOf]; omega
                · have hTy := hT6.of_blocks (w' := wy) (fun r hr => hby.block r hr)
                  cases nr
                  · obtain ⟨bt, rfl, hrt⟩ := hTy
                    have t0 : wy.cell? ⟨bt, 0, none⟩ = some (.string ⟨#[70, 72, 73, 82]⟩) := hrt.cell (by omega)
                    have t1 : wy.cell? ⟨bt, 1, none⟩ = some (.string ⟨#[84]⟩) := hrt.cell (by omega)
                    have t2 : wy.cell? ⟨bt, 2, none⟩ = some (.int .u8 3) := hrt.cell (by omega)
                    go_wp2
                    go_ret
                    exact ⟨rfl, hBy⟩
                  · have hTy' : tp = none := hTy
                    subst hTy'
                    go_wp2
                    go_ret
                    exact ⟨rfl, hBy⟩

set_option maxRecDepth 100000 in
theorem law_long (nr : Bool) (ak : Option Addr) (nk ck : Nat) (an : Option Addr) (nn cn : Nat) (al : Option Addr) (nl cl : Nat) (aty : Option Addr) (nt ct : Nat) (key : ByteArray) (w : World) (h : 1048576 < nk) :
    Calls Yba.prog 3 #[.bool nr, .slice ak nk ck, .slice an nn cn, .slice al nl cl, .slice aty nt ct, .string key] w fun e w' => e = .returned (.bool true) ∧ Below w.heap.size w w' := by
  have hd : (1048576 : Int) < (nk : Int) := by omega
  go_enter Yba.func3, Yba.ntmps3
  go_wp2
  go_ret
  exact ⟨rfl, Below.refl _ _⟩
end Go.Proofs.Ybulkdtoy.lawS6017BWhole
