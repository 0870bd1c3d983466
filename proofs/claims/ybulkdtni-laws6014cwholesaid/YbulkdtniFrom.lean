/-
  graph.fromLinks: the walk.
-/
import Derived.Test.YbulkdtniPre
namespace Go.Proofs.Ybulkdtni.lawS6014CWhole
open Go.RowKit Go.Proofs.Ybulkdtni.Own
open Go.Sort (ltInt PermIn SortedIn)

set_option maxRecDepth 100000 in
set_option maxHeartbeats 40000000 in
theorem from7 (w : World) (g cap N c : Nat) (tl : Nat → Value) (d : Array (Int × Int)) (h0 : LSt w w g cap N tl d) (hN : N ≤ 2048) (hc : N ≤ c) (huv : ∀ x ∈ d, x.1 < x.2) :
    Calls Yba.prog 7 #[.slice (some ⟨g, 0, none⟩) N c] w fun e w' => ∃ G, e = .returned (.pointer (some ⟨G, 0, none⟩)) ∧ FromOk w w' g d G := by
  have HUV := hide huv
  have HDN := hide h0.1
  clear huv
  have H0 := hide h0
  have hgl := h0.lt
  clear h0
  go_enter Yba.func7, Yba.ntmps7
  go_wp2_with fail
  have S1 : Hid (LSt (w.alloc (Obj.cells #[.slice (some ⟨g, 0, none⟩) N c] 61)) (w.alloc (Obj.cells #[.slice (some ⟨g, 0, none⟩) N c] 61)) g cap N tl d) := hide (H0.out.alloc _).start
  have R1 : Hid (RowF (w.alloc (Obj.cells #[.slice (some ⟨g, 0, none⟩) N c] 61)) w.heap.size 61 1 (fun _ => .slice (some ⟨g, 0, none⟩) N c)) := hide ((rowF_alloc w [.slice (some ⟨g, 0, none⟩) N c] 61).congr (fun j hj => by
    obtain rfl : j = 0 := by simpa using hj
    rfl))
  have F1 : Hid (But [] w (w.alloc (Obj.cells #[.slice (some ⟨g, 0, none⟩) N c] 61))) := hide (But.alloc w _)
  have hne : w.heap.size ≠ g := by omega
  generalize hw1 : w.alloc (Obj.cells #[.slice (some ⟨g, 0, none⟩) N c] 61) = w1 at S1 R1 F1 ⊢
  have hB1w : w.heap.size ≤ w.heap.size := Nat.le_refl _
  generalize hB1' : w.heap.size = B1 at R1 hne hB1w ⊢
  have HB1w := hide hB1'
  refine (sortLinks w1 g cap N c B1 tl d S1.out (by omega) (R1.out.cell (j := 0) (by omega)) hne).mono ?_
  rintro e w2 ⟨rfl, D1, S2, P2, O2⟩
  have R2 := hide (RowF.only R1.out S2.2.2.2 hne)
  have HS2 := hide S2
  have HP2 := hide P2
  have HO2 := hide O2
  have c2 := R2.out.cell (j := 0) (by omega)
  clear S2 P2 O2
  go_wp2_with fail
  refine (dedup15 w2 g cap N c tl D1 HS2.out.start HO2.out (by omega) hc).mono ?_
  rintro e w3 ⟨m, L, rfl, S3, E3⟩
  have R3 := hide (RowF.only R2.out S3.2.2.2 hne)
  have HS3 := hide S3
  have HE3 := hide E3
  have hmN : m ≤ N := E3.ki
  have c3 := R3.out.cell (j := 0) (by omega)
  have f3 := R3.out.frozen 0
  clear S3 E3 c2
  go_wp2_with (at_make; refine wpList_make_cap rfl _ _ 68 rfl 24 (.int .u64 0) 8 Yba.underlying68 info24 rfl _ _ _ _ 0 (2 * m) rfl rfl (by simp) (by simp) (by omega) (by omega) (by unfold maxLen; omega) ?_)
  intro g3 w4 hg3 hs4 hrow hbel
  have hB1 : B1 < w3.heap.size := R3.out.lt
  clear hB1w
  have G3 : g3 = w3.heap.size := by have := hg3.out; simpa using this
  have FB : But [] (w3.setCell ⟨B1, 0, none⟩ (.slice (some ⟨g, 0, none⟩) m c)) w4 := But.below (by rw [show (w3.setCell ⟨B1, 0, none⟩ (.slice (some ⟨g, 0, none⟩) m c)).heap.size = g3 by rw [G3]; simp]; exact hbel)
  have R4 : Hid (RowF w4 B1 61 1 (fun _ => .slice (some ⟨g, 0, none⟩) m c)) := hide ((R3.out.store 0 (.slice (some ⟨g, 0, none⟩) m c) (fun _ => rfl) (fun j h1 h2 => by omega)).below hbel (by omega))
  have HL4 : Hid (LSt w4 w4 g cap N tl L) := hide ((HS3.out.but (But.setCell w3 B1 0 _) (by simpa using hne.symm)).but FB (by simp))
  have F4 : Hid (But [g] w w4) := hide ((((((But.refl [g] w).new F1.out).trans (But.only HS2.out.2.2.2)).trans (But.only HS3.out.2.2.2)).step (But.setCell w3 B1 0 _) (fun y hy => Or.inr (by simp at hy; omega))).new FB)
  have HR4 := hide hrow
  have hg3w : w.heap.size ≤ g3 := by have := F1.out.size; have := HS2.out.2.2.2.1.size; have := HS3.out.2.2.2.1.size; omega
  have HS4 := hs4
  have HG3 := hide G3
  have hB13 : B1 < g3 := by omega
  have hgl4 : g < g3 := by have := HL4.out.lt; have := hs4.out; have := (HS3.out.2.2.1).lt; omega
  clear FB G3 hB1 hbel hrow hg3 hs4 HS3 HS2 R3 R2 R1 S1 F1 c3 f3 H0 hw1
  have c4 : (w4.alloc (Obj.cells #[.slice (some ⟨g3, 0, none⟩) 0 (2 * m)] 68)).cell? ⟨B1, 0, none⟩ = some (.slice (some ⟨g, 0, none⟩) m c) := (R4.out.alloc _).cell (j := 0) (by omega)
  go_wp2_with fail
  have R5 : Hid (RowF (w4.alloc (Obj.cells #[.slice (some ⟨g3, 0, none⟩) 0 (2 * m)] 68)) w4.heap.size 68 1 (fun _ => .slice (some ⟨g3, 0, none⟩) 0 (2 * m))) := hide ((rowF_alloc w4 [.slice (some ⟨g3, 0, none⟩) 0 (2 * m)] 68).congr (fun j hj => by
    obtain rfl : j = 0 := by simpa using hj
    rfl))
  have Q5 : Hid (Grow (w4.alloc (Obj.cells #[.slice (some ⟨g3, 0, none⟩) 0 (2 * m)] 68)) g3 24 .u64 (.slice (some ⟨g3, 0, none⟩) 0 (2 * m)) #[]) := hide (Grow.made (HR4.out.alloc _) (Nat.le_refl _) (by unfold maxLen; omega))
  have F5 : Hid (But [g] w (w4.alloc (Obj.cells #[.slice (some ⟨g3, 0, none⟩) 0 (2 * m)] 68))) := hide (F4.out.new (But.alloc _ _))
  have HL5 : Hid (LSt (w4.alloc (Obj.cells #[.slice (some ⟨g3, 0, none⟩) 0 (2 * m)] 68)) (w4.alloc (Obj.cells #[.slice (some ⟨g3, 0, none⟩) 0 (2 * m)] 68)) g cap N tl L) := hide (HL4.out.but (But.alloc _ _) (by simp))
  have RB5 : Hid (RowF (w4.alloc (Obj.cells #[.slice (some ⟨g3, 0, none⟩) 0 (2 * m)] 68)) B1 61 1 (fun _ => .slice (some ⟨g, 0, none⟩) m c)) := hide (R4.out.alloc _)
  have hB3 : g3 < w4.heap.size := by have := HS4.out; omega
  generalize hw5 : w4.alloc (Obj.cells #[.slice (some ⟨g3, 0, none⟩) 0 (2 * m)] 68) = w5 at R5 Q5 F5 HL5 RB5 c4 ⊢
  generalize hB3' : w4.heap.size = B3 at R5 hB3 ⊢
  clear hw5 hB3' R4 HL4 F4 HR4 HS4 HG3 c4
  go_loopw [33, 5] (fun vx _ wr => ∃ (k : Nat) (D : Array Int) (v : Value), vx = .int .i64 k ∧ k ≤ m ∧ D.size = 2 * k ∧ Hid (RowF wr B1 61 1 (fun _ => .slice (some ⟨g, 0, none⟩) m c)) ∧ Hid (LSt wr wr g cap N tl L) ∧ Hid (But [g] w wr) ∧ Hid (RowF wr B3 68 1 (fun _ => v)) ∧ Hid (Grow wr g3 24 .u64 v D) ∧ Hid (v ≠ .slice none 0 0) ∧ Hid (∀ x, x ∈ D ↔ ∃ t, t < k ∧ (L[t]!.1 = x ∨ L[t]!.2 = x))) (fun vx _ _ => m - (intOf vx).toNat)
  case atStart => exact ⟨0, #[], _, rfl, Nat.zero_le _, rfl, RB5, HL5, F5, R5, Q5, hide (by simp), hide (fun x => by simp)⟩
  case round =>
    clear RB5 HL5 F5 R5 Q5
    obtain ⟨k, D, v, rfl, hk, hD, RB, HL, F, RI, Q, HV, HM⟩ := hrel
    by_cases hlt : k < m
    · obtain ⟨x, hx⟩ : ∃ x, x = L[k]!.1 := ⟨_, rfl⟩
      obtain ⟨y, hy⟩ : ∃ y, y = L[k]!.2 := ⟨_, rfl⟩
      have HX := hide hx
      have HY := hide hy
      have c0 : wr.cell? ⟨g, k * 2, none⟩ = some (.int .u64 x) := by rw [hx]; exact HL.out.cell0 (by omega)
      have c1 : wr.cell? ⟨g, k * 2 + 1, none⟩ = some (.int .u64 y) := by rw [hy]; exact HL.out.cell1 (by omega)
      have c2 : wr.cell? ⟨B3, 0, none⟩ = some v := RI.out.cell (j := 0) (by omega)
      clear hx hy
      have q1 : (0 : Int) ≤ k := by omega
      have q2 : (k : Int) < m := by omega
      have q3 : B3 < wr.heap.size := RI.out.lt
      have N0 : ((wr.alloc (Obj.cells #[.int .u64 x, .int .u64 y] 65)).alloc (Obj.cells #[.int .u64 x, .int .u64 y] 24)).cell? ⟨wr.heap.size + 1, 0, none⟩ = some (.int .u64 x) := new_cell0 _ _ _ _ _
      have N1 : ((wr.alloc (Obj.cells #[.int .u64 x, .int .u64 y] 65)).alloc (Obj.cells #[.int .u64 x, .int .u64 y] 24)).cell? ⟨wr.heap.size + 1, 1, none⟩ = some (.int .u64 y) := new_cell1 _ _ _ _ _
      have BB : Hid (But [] wr ((wr.alloc (Obj.cells #[.int .u64 x, .int .u64 y] 65)).alloc (Obj.cells #[.int .u64 x, .int .u64 y] 24))) := hide ((But.alloc _ _).new (But.alloc _ _))
      have Q1 := hide (Q.out.but BB.out (by simp))
      have hbs : g3 ≤ ((wr.alloc (Obj.cells #[.int .u64 x, .int .u64 y] 65)).alloc (Obj.cells #[.int .u64 x, .int .u64 y] 24)).heap.size := by have := BB.out.size; omega
      have HN := hide (And.intro N0 N1)
      have HBS := hide hbs
      clear N0 N1 hbs
      go_wp2_with (at_builtin; refine wpList_grow rfl _ _ 68 rfl g3 24 .u64 0 8 Yba.underlying68 info24 v D rfl Q1.out ⟨wr.heap.size + 1, 0, none⟩ 2 2 #[x, y] rfl rfl ?hn ?hb ?h63 HBS.out ?hK)
      case hn =>
        intro j hj
        rw [Addr.add_lit]
        match j, hj with
        | 0, _ => exact HN.out.1
        | 1, _ => exact HN.out.2
      case hb => omega
      case h63 => unfold maxLen; omega
      case hK =>
        intro v' w' Q2 hgr hnil
        obtain ⟨a', n', cap', rfl⟩ := Q2.slice
        have HV' : Hid (Value.slice a' n' cap' ≠ .slice none 0 0) := hide (fun h => (hnil h).elim)
        clear hnil
        have RI' := Q1.out.keep hgr (RowF.but RI.out BB.out (by simp)) (by decide)
        have RB' := Q1.out.keep hgr (RowF.but RB.out BB.out (by simp)) (by decide)
        have HL' : LSt w' w' g cap N tl L := ⟨HL.out.1, HL.out.2.1, Q1.out.keep hgr (RowF.but HL.out.2.2.1 BB.out (by simp)) (by decide), Only.refl _ _⟩
        have F' := Q1.out.frame hgr hg3w (F.out.new BB.out)
        have HQ2 := hide Q2
        have HRI := hide RI'
        have HRB := hide RB'
        have HHL := hide HL'
        have HF := hide F'
        have c3 : w'.cell? ⟨B3, 0, none⟩ = some v := RI'.cell (j := 0) (by omega)
        have f3 := RI'.frozen 0
        clear Q2 RI' RB' HL' F' hgr Q1 BB HN HBS c0 c1 c2 Q RI RB HL F
        go_wp2
        go_roundw
        case rel =>
          have hsw := But.setCell w' B3 0 (.slice a' n' cap')
          have hne3 : ∀ g', (Value.slice a' n' cap').ownBlock = some g' → g' ∉ [B3] := fun g' h => by simpa using HQ2.out.ne HRI.out (by decide) g' h
          exact ⟨k + 1, D ++ #[x, y], .slice a' n' cap', by go_num, by omega, by simp; omega, hide (RowF.but HRB.out hsw (by simp; omega)), hide (HHL.out.but hsw (by simp; omega)), hide (HF.out.step hsw (fun z hz => Or.inr (by simp at hz; omega))), hide (HRI.out.store 0 (.slice a' n' cap') (fun _ => rfl) (fun j h1 h2 => by omega)), hide (HQ2.out.but hsw hne3), HV', hide (fun z => by
            rw [Array.mem_append, HM.out z]
            constructor
            · rintro (⟨t, ht, e⟩ | e)
              · exact ⟨t, by omega, e⟩
              · simp at e
                exact ⟨k, by omega, by rw [← HX.out, ← HY.out]; rcases e with e | e <;> simp [e]⟩
            · rintro ⟨t, ht, e⟩
              by_cases htk : t = k
              · subst htk
                rw [← HX.out, ← HY.out] at e
                exact Or.inr (by rcases e with e | e <;> simp [e])
              · exact Or.inl ⟨t, by omega, e⟩)⟩
        case measure => simp [intOf]; omega
    · obtain rfl : m = k := by omega
      rcases Q.out.cases with ⟨h, _⟩ | ⟨gi, ci, ti, rfl, hgi, hci, hcm, hri⟩
      · exact absurd h HV.out
      have hgiB : gi ≠ B3 := Q.out.ne RI.out (by decide) gi rfl
      have SI : Hid (St wr wr gi ci D.size ti D) := hide ⟨rfl, hci, hri, Only.refl _ _⟩
      have c3 := RI.out.cell (j := 0) (by omega)
      have hDs : D.size ≤ 4096 := by omega
      obtain ⟨n0, hn0⟩ : ∃ n0, n0 = D.size := ⟨_, rfl⟩
      rw [← hn0] at SI hci c3 hDs
      have RI' : Hid (RowF wr B3 68 1 (fun _ => .slice (some ⟨gi, 0, none⟩) n0 ci)) := hide (by rw [hn0]; exact RI.out)
      have HN0 := hide hn0
      have HDk := hide hD
      clear hri hn0 hD Q RI hcm hk hlt
      go_wp2_with fail
      refine (sortIds wr gi ci n0 ci B3 ti D SI.out (by omega) c3 hgiB.symm).mono ?_
      rintro e w6 ⟨rfl, I0, S6, P6, O6⟩
      have F6 : Hid (But [g] w w6) := hide (F.out.step (But.only S6.2.2.2) (fun y hy => Or.inr (by simp at hy; omega)))
      have HL6 := hide (HL.out.but (But.only S6.2.2.2) (by simp; omega))
      have RB6 := hide (RowF.but RB.out (But.only S6.2.2.2) (by simp; omega))
      have R6 := hide (RowF.but RI'.out (But.only S6.2.2.2) (by simp; omega))
      have HS6 := hide S6.start
      have HP6 := hide P6
      have HO6 := hide O6
      have c6 := R6.out.cell (j := 0) (by omega)
      clear S6 P6 O6 SI HL RB F RI' c3
      go_wp2_with fail
      go_loopw [51, 6, 7, 8] (fun vx vn _ _ wr => ∃ (i k : Nat) (J : Array Int), vx = .int .i64 i ∧ vn = .int .i64 k ∧ i ≤ n0 ∧ Hid (St w6 wr gi ci n0 ti J) ∧ Hid (Ded ltInt I0 J i k)) (fun vx _ _ _ _ => n0 - (intOf vx).toNat)
      case atStart => exact ⟨0, 0, I0, rfl, rfl, by omega, HS6, hide (Ded.start _ _)⟩
      case round =>
        rename World => wx
        obtain ⟨i, k, J, rfl, rfl, hi, HJ, HD⟩ := hrel
        have b3 : wx.cell? ⟨B3, 0, none⟩ = some (.slice (some ⟨gi, 0, none⟩) n0 ci) := (RowF.only R6.out HJ.out.2.2.2 hgiB.symm).cell (j := 0) (by omega)
        have hki := HD.out.ki
        clear c6
        by_cases hlt : i < n0
        · obtain ⟨x, hx⟩ : ∃ x, x = J[i]! := ⟨_, rfl⟩
          have HX := hide hx
          have c0 : wx.cell? ⟨gi, i, none⟩ = some (.int .u64 x) := by rw [hx]; exact HJ.out.cell hlt
          clear hx
          have hdi : Hid (I0[i]! = x) := hide (by rw [← HD.out.rest i hki]; exact HX.out.symm)
          have q1 : (0 : Int) ≤ i := by omega
          have q2 : (i : Int) < n0 := by omega
          have fz := HJ.out.frozen k
          have cz := HJ.out.cell (t := k) (by omega)
          have q3 : (k : Int) < n0 := by omega
          by_cases h0 : i = 0
          · subst h0
            obtain rfl : k = 0 := by omega
            go_wp2
            go_roundw
            case rel => exact ⟨1, 1, J.setIfInBounds 0 x, rfl, rfl, by omega, hide (HJ.out.set (by omega) x), hide (by
              have := HD.out.keep total_int (by rw [HS6.out.1]; exact HO6.out) (by rw [HS6.out.1]; omega) (Or.inl rfl)
              rw [hdi.out] at this
              exact this)⟩
            case measure => simp [intOf]; omega
          · have hlast := hide (HD.out.last (by omega))
            obtain ⟨k1, rfl⟩ : ∃ k1, k = k1 + 1 := ⟨k - 1, by have := hlast.out.1; omega⟩
            obtain ⟨y, hy⟩ : ∃ y, y = J[k1]! := ⟨_, rfl⟩
            have HY := hide hy
            have c1 : wx.cell? ⟨gi, k1, none⟩ = some (.int .u64 y) := by rw [hy]; exact HJ.out.cell (by omega)
            clear hy
            have z0 : ((i : Int) == 0) = false := by simpa using (by omega : ¬ (i : Int) = 0)
            have z2 : (k1 : Int) < n0 := by omega
            by_cases hxy : x = y
            · have hb : (x != y) = false := by simpa using hxy
              have HXY := hide hxy
              clear hxy
              go_wp2
              go_roundw
              case rel => exact ⟨i + 1, k1 + 1, J, by go_num, by go_num, by omega, HJ, hide (HD.out.skip (by rw [HS6.out.1]; omega) (by omega) (by rw [hdi.out, Nat.add_sub_cancel, HXY.out]; exact HY.out))⟩
              case measure => simp [intOf]; omega
            · have hb : (x != y) = true := by simpa using hxy
              have HXY := hide hxy
              clear hxy
              go_wp2
              go_roundw
              case rel => exact ⟨i + 1, k1 + 1 + 1, J.setIfInBounds (k1 + 1) x, by go_num, by go_num, by omega, hide (HJ.out.set (by omega) x), hide (by
                have := HD.out.keep total_int (by rw [HS6.out.1]; exact HO6.out) (by rw [HS6.out.1]; omega) (Or.inr (by rw [hdi.out, Nat.add_sub_cancel]; rw [← HY.out]; exact HXY.out))
                rw [hdi.out] at this
                exact this)⟩
              case measure => simp [intOf]; omega
        · obtain rfl : i = n0 := by omega
          go_wp2_with fail
          have mk1 : ∀ W : World, Sem.run Yba.prog (Instr.makeSlice 71 (.int .i64 ((k : Int) + 1)) (.int .i64 ((k : Int) + 1))) W = .ok (.slice (some ⟨W.heap.size, 0, none⟩) (k + 1) (k + 1)) (W.alloc (.cells (madeCells #[.int .i32 0] (k + 1)) 21)) := fun W => make71 W (k + 1) (by omega)
          go_region
          have fr := fresh3 wx (.slice (some ⟨gi, 0, none⟩) k k) (.slice (some ⟨wx.heap.size + 1 + 1, 0, none⟩) (k + 1) (k + 1)) (.slice none 0 0) (.pointer (some ⟨wx.heap.size, 0, none⟩)) (k + 1)
          have hgx : gi < wx.heap.size := HJ.out.lt
          have hwx : w.heap.size ≤ wx.heap.size := by have := F6.out.size; have := HJ.out.2.2.2.1.size; omega
          have hJk := HJ.out.2.2.2
          have HLa := HL6.out.but (But.only hJk) (by simp; omega)
          have RBa := RowF.but RB6.out (But.only hJk) (by simp; omega)
          have Fa := F6.out.step (But.only hJk) (fun y hy => Or.inr (by simp at hy; omega))
          obtain ⟨hJI, hEnds⟩ := ends_of HDN.out HP2.out HE3.out HUV.out HM.out HN0.out.symm HP6.out HD.out
          obtain ⟨U, V, hE⟩ := hEnds
          have hmd := mem_d HDN.out HP2.out HE3.out
          have HE := hide hE
          have HJI := hide hJI
          have HMD := hide hmd
          have hgi' : g < gi := by omega
          have hB1i : B1 < gi := by omega
          have hkm : k ≤ 2 * m := by have := HN0.out; have := HDk.out; omega
          have SJa := HJ.out.start
          clear hJI hE hmd hJk mk1 b3 hi hlt HD HJ hci R6 HS6 HP6 HO6 HN0 HL6 RB6 F6 HM HV HDk HE3 HUV HDN HP2 HO2 hgi hgiB hB3 hB13 hgl4 hg3w HB1w hB1'
          generalize hW7 : (((wx.alloc (Obj.cells #[.slice (some ⟨gi, 0, none⟩) k k, .slice (some ⟨wx.heap.size + 1 + 1, 0, none⟩) (k + 1) (k + 1), .slice none 0 0] 76)).alloc (Obj.cells #[.pointer (some ⟨wx.heap.size, 0, none⟩)] 66)).alloc (Obj.cells (madeCells #[.int .i32 0] (k + 1)) 21)).drew = W7 at fr ⊢
          obtain ⟨RGa, R9a, ROa, fb⟩ := fr
          have RG7 := hide RGa
          have R97 := hide R9a
          have RO7 := hide ROa
          have HL7 := hide (HLa.but fb (by simp))
          have RB7 := hide (RowF.but RBa fb (by simp))
          have F7 := hide (Fa.new fb)
          have SJ := hide (SJa.but fb (by simp))
          clear RGa R9a ROa HLa RBa Fa SJa
          obtain ⟨B9, hB9⟩ : ∃ B9, B9 = wx.heap.size + 1 := ⟨_, rfl⟩
          have hB9' : B9 = wx.heap.size + 1 := hB9
          rw [← hB9] at RG7 R97 RO7 ⊢
          obtain ⟨go, hgo⟩ : ∃ go, go = B9 + 1 := ⟨_, rfl⟩
          have hgo' : go = B9 + 1 := hgo
          rw [← hgo] at RG7 RO7
          generalize hG : wx.heap.size = G at RG7 R97 hgx hwx hB9' ⊢
          have lG9 : G < B9 := by omega
          have l9o : B9 < go := by omega
          clear hW7 fb hB9 hB9' hgo hgo' hG
          have c7 := RB7.out.cell (j := 0) (by omega)
          go_wp2_with fail
          have hArr : Hid (Arr W7 (some ⟨gi, 0, none⟩) k .u64 (fun j => J[j]!)) := hide (fun j hj => ⟨gi, 0, rfl, by rw [Nat.zero_add]; exact SJ.out.cell (by omega)⟩)
          have hkk : k ≤ 4096 := by omega
          clear c7
          go_loopw [89, 12] (fun vx _ wr => ∃ t : Nat, vx = .int .i64 t ∧ t ≤ m ∧ Hid (But [go] W7 wr) ∧ Hid (RowF wr go 21 (k + 1) (fun j => .int .i32 (cell1 U V (2 * t) j : Nat)))) (fun vx _ _ => m - (intOf vx).toNat)
          case atStart => exact ⟨0, rfl, Nat.zero_le _, hide (But.refl _ _), hide (RO7.out.congr (fun j _ => by simp [cell1, cnt]))⟩
          case round =>
            rename World => wy
            obtain ⟨t, rfl, ht, FB, RO⟩ := hrel
            by_cases hlt : t < m
            · obtain ⟨x, hx⟩ : ∃ x, x = L[t]!.1 := ⟨_, rfl⟩
              obtain ⟨y, hy⟩ : ∃ y, y = L[t]!.2 := ⟨_, rfl⟩
              have HX := hide hx
              have HY := hide hy
              have HLy := HL7.out.but FB.out (by simp; omega)
              have c0 : wy.cell? ⟨g, t * 2, none⟩ = some (.int .u64 x) := by rw [hx]; exact HLy.cell0 (by omega)
              have c1 : wy.cell? ⟨g, t * 2 + 1, none⟩ = some (.int .u64 y) := by rw [hy]; exact HLy.cell1 (by omega)
              clear hx hy HLy
              have q1 : (0 : Int) ≤ t := by omega
              have q2 : (t : Int) < m := by omega
              go_upto_region 24 with fail
              have p0 : (wy.alloc (Obj.cells #[.int .u64 x, .int .u64 y] 65)).cell? ⟨wy.heap.size, 0, none⟩ = some (.int .u64 x) := by
                rw [cell_of_row _ _ _ _ _ _ (heap_alloc_new _ _)]; rfl
              have p1 : (wy.alloc (Obj.cells #[.int .u64 x, .int .u64 y] 65)).cell? ⟨wy.heap.size, 1, none⟩ = some (.int .u64 y) := by
                rw [cell_of_row _ _ _ _ _ _ (heap_alloc_new _ _)]; rfl
              have FA : Hid (But [go] W7 (wy.alloc (Obj.cells #[.int .u64 x, .int .u64 y] 65))) := hide (FB.out.new (But.alloc _ _))
              have RA : Hid (RowF (wy.alloc (Obj.cells #[.int .u64 x, .int .u64 y] 65)) go 21 (k + 1) (fun j => .int .i32 (cell1 U V (2 * t) j : Nat))) := hide (RO.out.alloc _)
              have hlb : go ≠ wy.heap.size := by have := RO.out.lt; omega
              generalize hwA : wy.alloc (Obj.cells #[.int .u64 x, .int .u64 y] 65) = wA at p0 p1 FA RA ⊢
              generalize hsz : wy.heap.size = lb at p0 p1 hlb ⊢
              clear hwA hsz c0 c1 FB RO
              go_cut [89] from 89 to 119 (fun s89 wz => s89 = .int .i64 t ∧ Hid (But [go] W7 wz) ∧ Hid (RowF wz go 21 (k + 1) (fun j => .int .i32 (cell1 U V (2 * t + 1) j : Nat))) ∧ Hid (wz.cell? ⟨lb, 1, none⟩ = some (.int .u64 y)))
              case first =>
                have z9 : wA.cell? ⟨B9, 0, none⟩ = some (.pointer (some ⟨G, 0, none⟩)) := (RowF.but R97.out FA.out (by simp; omega)).cell (j := 0) (by omega)
                have hG := RowF.but RG7.out FA.out (by simp; omega)
                have zG0 : wA.cell? ⟨G, 0, none⟩ = some (.slice (some ⟨gi, 0, none⟩) k k) := hG.cell (j := 0) (by omega)
                have zG1 : wA.cell? ⟨G, 1, none⟩ = some (.slice (some ⟨go, 0, none⟩) (k + 1) (k + 1)) := hG.cell (j := 1) (by omega)
                have hA : Hid (Arr wA (some ⟨gi, 0, none⟩) k .u64 (fun j => J[j]!)) := hide (fun j hj => by
                  obtain ⟨b, off, e, hc⟩ := hArr.out j hj
                  simp at e
                  obtain ⟨rfl, rfl⟩ := e
                  exact ⟨_, _, rfl, (FA.out.cell hc (by simp; omega))⟩)
                obtain ⟨p, hp⟩ : ∃ p, p = U t := ⟨_, rfl⟩
                have hpk : p < k := by rw [hp]; exact HE.out.ltU t hlt
                have hxp : J[p]! = x := by rw [hp, HE.out.atU t hlt]; exact HX.out.symm
                have hlo : Hid (∀ t', t' < p → J[t']! < x) := hide (by rw [← hxp]; exact HE.out.lo hpk)
                have hhi : Hid (∀ t', p ≤ t' → t' < k → x ≤ J[t']!) := hide (by rw [← hxp]; exact HE.out.hi)
                have hnode : Hid (node U V (2 * t) = p) := hide (by rw [node_even, hp])
                have HXP := hide hxp
                obtain ⟨cc, hcc⟩ : ∃ cc, cc = cell1 U V (2 * t) (p + 1) := ⟨_, rfl⟩
                have hcb : cc ≤ 4096 := by have := cell1_le U V (2 * t) (p + 1); omega
                have HCC := hide hcc
                have zc : wA.cell? ⟨go, p + 1, none⟩ = some (.int .i32 (cc : Int)) := by rw [hcc]; exact RA.out.cell (by omega)
                have e1 : (0 : Int) ≤ (p : Int) + 1 := by omega
                have e2 : (p : Int) + 1 < (k : Int) + 1 := by omega
                have wp : IntKind.i32.wrap ((p : Int) + 1) = (p : Int) + 1 := wrap32 (by omega) (by omega)
                have wc : IntKind.i32.wrap ((cc : Int) + 1) = (cc : Int) + 1 := wrap32 (by omega) (by omega)
                clear hG hp hxp hcc
                go_region_with
                  ((go_at_call 17; refine (idx17 wA.drew B9 G k k (some ⟨gi, 0, none⟩) (fun j => J[j]!) x p z9 zG0 hA (by omega) hpk hlo hhi HXP.out).mono ?_; rintro e w2 ⟨rfl, hb⟩; obtain ⟨y9, yG, yl, y1, yc, yf, R⟩ := call_count hb RA.out FA.out z9 zG1 p0 p1 hpk HCC.out; have HR := hide R; clear hb R))
                all_goals (go_wp2; go_meet)
                all_goals
                  have hr := count_rel hnode.out HCC.out HR.out
                  exact ⟨rfl, hide hr.1, hide hr.2, hide ((But.setCell w2 go (p + 1) _).cell y1 (by simpa using hlb.symm))⟩
              case rest =>
                rename World => wz
                obtain ⟨rfl, FZ, RZ, HZ1⟩ := hcut
                clear p0 p1 FA RA
                have p1 := HZ1.out
                have z9 : wz.cell? ⟨B9, 0, none⟩ = some (.pointer (some ⟨G, 0, none⟩)) := (RowF.but R97.out FZ.out (by simp; omega)).cell (j := 0) (by omega)
                have hG := RowF.but RG7.out FZ.out (by simp; omega)
                have zG0 : wz.cell? ⟨G, 0, none⟩ = some (.slice (some ⟨gi, 0, none⟩) k k) := hG.cell (j := 0) (by omega)
                have zG1 : wz.cell? ⟨G, 1, none⟩ = some (.slice (some ⟨go, 0, none⟩) (k + 1) (k + 1)) := hG.cell (j := 1) (by omega)
                have hA : Hid (Arr wz (some ⟨gi, 0, none⟩) k .u64 (fun j => J[j]!)) := hide (fun j hj => by
                  obtain ⟨b, off, e, hc⟩ := hArr.out j hj
                  simp at e
                  obtain ⟨rfl, rfl⟩ := e
                  exact ⟨_, _, rfl, (FZ.out.cell hc (by simp; omega))⟩)
                obtain ⟨p, hp⟩ : ∃ p, p = V t := ⟨_, rfl⟩
                have hpk : p < k := by rw [hp]; exact HE.out.ltV t hlt
                have hxp : J[p]! = y := by rw [hp, HE.out.atV t hlt]; exact HY.out.symm
                have hlo : Hid (∀ t', t' < p → J[t']! < y) := hide (by rw [← hxp]; exact HE.out.lo hpk)
                have hhi : Hid (∀ t', p ≤ t' → t' < k → y ≤ J[t']!) := hide (by rw [← hxp]; exact HE.out.hi)
                have hnode : Hid (node U V (2 * t + 1) = p) := hide (by rw [node_odd, hp])
                have HXP := hide hxp
                obtain ⟨cc, hcc⟩ : ∃ cc, cc = cell1 U V (2 * t + 1) (p + 1) := ⟨_, rfl⟩
                have hcb : cc ≤ 4096 := by have := cell1_le U V (2 * t + 1) (p + 1); omega
                have HCC := hide hcc
                have zc : wz.cell? ⟨go, p + 1, none⟩ = some (.int .i32 (cc : Int)) := by rw [hcc]; exact RZ.out.cell (by omega)
                have e1 : (0 : Int) ≤ (p : Int) + 1 := by omega
                have e2 : (p : Int) + 1 < (k : Int) + 1 := by omega
                have wp : IntKind.i32.wrap ((p : Int) + 1) = (p : Int) + 1 := wrap32 (by omega) (by omega)
                have wc : IntKind.i32.wrap ((cc : Int) + 1) = (cc : Int) + 1 := wrap32 (by omega) (by omega)
                clear hG hp hxp hcc HZ1
                go_upto_region 25 with fail
                go_region_with
                  ((go_at_call 17; refine (idx17 wz.drew B9 G k k (some ⟨gi, 0, none⟩) (fun j => J[j]!) y p z9 zG0 hA (by omega) hpk hlo hhi HXP.out).mono ?_; rintro e w2 ⟨rfl, hb⟩; obtain ⟨y9, yG, y1, yc, yf, R⟩ := call_count' hb RZ.out FZ.out z9 zG1 p1 hpk HCC.out; have HR := hide R; clear hb R))
                all_goals (go_wp2; go_roundw)
                all_goals first
                  | (have hr := count_rel hnode.out HCC.out HR.out; exact ⟨t + 1, by go_num, by omega, hide hr.1, hide hr.2⟩)
                  | (simp [intOf]; omega)
            · obtain rfl : m = t := by omega
              go_wp2_with fail
              have RO0 : Hid (RowF wy go 21 (k + 1) (fun j => .int .i32 (cell2 U V m 0 j : Nat))) := hide (RO.out.congr (fun j _ => by rw [cell2_zero]))
              clear hlt ht RO
              go_loopw [13] (fun vv wr => ∃ v : Nat, vv = .int .i64 v ∧ v ≤ k ∧ Hid (But [go] W7 wr) ∧ Hid (RowF wr go 21 (k + 1) (fun j => .int .i32 (cell2 U V m v j : Nat)))) (fun vv _ => k - (intOf vv).toNat)
              case atStart => exact ⟨0, rfl, Nat.zero_le _, FB, RO0⟩
              case round =>
                clear FB RO0
                rename World => wz
                obtain ⟨v, rfl, hv, FB, RO⟩ := hrel
                have z9 : wz.cell? ⟨B9, 0, none⟩ = some (.pointer (some ⟨G, 0, none⟩)) := (RowF.but R97.out FB.out (by simp; omega)).cell (j := 0) (by omega)
                have hG := RowF.but RG7.out FB.out (by simp; omega)
                by_cases hlt : v < k
                · have zG1 : wz.cell? ⟨G, 1, none⟩ = some (.slice (some ⟨go, 0, none⟩) (k + 1) (k + 1)) := hG.cell (j := 1) (by omega)
                  obtain ⟨a, ha⟩ : ∃ a, a = cell2 U V m v v := ⟨_, rfl⟩
                  obtain ⟨b, hb⟩ : ∃ b, b = cell2 U V m v (v + 1) := ⟨_, rfl⟩
                  have ca : wz.cell? ⟨go, v, none⟩ = some (.int .i32 (a : Int)) := by rw [ha]; exact RO.out.cell (by omega)
                  have cb : wz.cell? ⟨go, v + 1, none⟩ = some (.int .i32 (b : Int)) := by rw [hb]; exact RO.out.cell (by omega)
                  have fz := RO.out.frozen (v + 1)
                  have la : a ≤ 4096 := by rw [ha]; have := HE.out.cell2_le v v (by omega); omega
                  have lb : b ≤ 4096 := by rw [hb]; have := HE.out.cell2_le v (v + 1) (by omega); omega
                  have HA := hide ha
                  have HB := hide hb
                  clear ha hb hG
                  have e0 : (0 : Int) ≤ (v : Int) := by omega
                  have e1 : (0 : Int) ≤ (v : Int) + 1 := by omega
                  have e2 : (v : Int) + 1 < (k : Int) + 1 := by omega
                  have e3 : (v : Int) < (k : Int) + 1 := by omega
                  have wp : IntKind.i32.wrap ((b : Int) + a) = (b : Int) + a := wrap32 (by omega) (by omega)
                  go_wp2_with fail
                  go_region
                  all_goals (go_wp2; go_roundw)
                  all_goals first
                    | exact ⟨v + 1, by go_num, by omega, hide ((FB.out.new (But.drew wz)).trans (But.setCell wz.drew go (v + 1) _)), hide (RO.out.drew.store (v + 1) _ (fun _ => by rw [cell2_at, ← HA.out, ← HB.out]; simp) (fun j _ hj => by rw [cell2_step U V m v j hj]))⟩
                    | (simp [intOf]; omega)
                · obtain rfl : k = v := by omega
                  have zB := (RowF.but RB7.out FB.out (by simp; omega)).cell (j := 0) (by omega)
                  have zG2 : wz.cell? ⟨G, 2, none⟩ = some (.slice none 0 0) := hG.cell (j := 2) (by omega)
                  have fG2 := hG.frozen 2
                  have mk2 : ∀ W : World, Sem.run Yba.prog (Instr.makeSlice 71 (.int .i64 (2 * (m : Int))) (.int .i64 (2 * (m : Int)))) W = .ok (.slice (some ⟨W.heap.size, 0, none⟩) (2 * m) (2 * m)) (W.alloc (.cells (madeCells #[.int .i32 0] (2 * m)) 21)) := fun W => by
                    have := make71 W (2 * m) (by omega)
                    simpa using this
                  have lzG := hG.lt
                  have lz9 : B9 < wz.heap.size := (RowF.but R97.out FB.out (by simp; omega)).lt
                  have lzB : B1 < wz.heap.size := by omega
                  have WA : Hid ((wz.alloc (.cells (madeCells #[.int .i32 0] (2 * m)) 21)).cell? ⟨B9, 0, none⟩ = some (.pointer (some ⟨G, 0, none⟩))) := hide ((But.alloc wz _).cell z9 (by simp))
                  have x9 := WA.out
                  have xB : (wz.alloc (.cells (madeCells #[.int .i32 0] (2 * m)) 21)).cell? ⟨B1, 0, none⟩ = some (.slice (some ⟨g, 0, none⟩) m c) := (But.alloc wz _).cell zB (by simp)
                  have xG : (wz.alloc (.cells (madeCells #[.int .i32 0] (2 * m)) 21)).cell? ⟨G, 2, none⟩ = some (.slice none 0 0) := (But.alloc wz _).cell zG2 (by simp)
                  have fr := fresh_adj wz G (2 * m) _ _ (.slice (some ⟨wz.heap.size, 0, none⟩) (2 * m) (2 * m)) hG
                  clear hG WA
                  go_wp2_with fail
                  go_region
                  clear x9 xB xG mk2 zG2 fG2 z9 zB hlt hv
                  have F8 : But [g] w wz := F7.out.step FB.out (fun y hy => Or.inr (by simp at hy; omega))
                  have hgo8 := RO.out.lt
                  generalize hW8 : ((wz.setCell ⟨G, 2, none⟩ (.slice (some ⟨wz.heap.size, 0, none⟩) (2 * m) (2 * m))).alloc (.cells (madeCells #[.int .i32 0] (2 * m)) 21)).drew = W8 at fr ⊢
                  obtain ⟨RGa, RAa, fb⟩ := fr
                  have RG8 := hide RGa
                  have RA8 := hide RAa
                  have RO8 := hide (RowF.but RO.out fb (by simp; omega))
                  have R98 := hide (RowF.but (RowF.but R97.out FB.out (by simp; omega)) fb (by simp; omega))
                  have RB8 := hide (RowF.but (RowF.but RB7.out FB.out (by simp; omega)) fb (by simp; omega))
                  have HL8 := hide ((HL7.out.but FB.out (by simp; omega)).but fb (by simp; omega))
                  have hArr8 : Hid (Arr W8 (some ⟨gi, 0, none⟩) k .u64 (fun j => J[j]!)) := hide (fun j hj => by
                    obtain ⟨b, off, e, hc⟩ := hArr.out j hj
                    simp at e
                    obtain ⟨rfl, rfl⟩ := e
                    exact ⟨_, _, rfl, fb.cell (FB.out.cell hc (by simp; omega)) (by simp; omega)⟩)
                  have HF8 := hide (F8.step fb (fun y hy => Or.inr (by simp at hy; omega)))
                  generalize hga : wz.heap.size = ga at RG8 RA8 hgo8 lzG lz9 lzB ⊢
                  clear hW8 hga RGa RAa fb RO FB R97 RG7 RO7 HL7 RB7 F7 SJ hArr F8
                  have x9 := R98.out.cell (j := 0) (by omega)
                  have xG : W8.cell? ⟨G, 1, none⟩ = some (.slice (some ⟨go, 0, none⟩) (k + 1) (k + 1)) := RG8.out.cell (j := 1) (by omega)
                  have xN : Hid (∀ j, j < k → W8.cell? ((⟨go, 0, none⟩ : Addr).add j) = some (.int .i32 (Array.ofFn (n := k) (fun j => (offs U V m j.1 : Int)))[j]!)) := hide (fun j hj => by
                    rw [Addr.add_lit, Nat.zero_add, ofFn_at (fun j => (offs U V m j : Int)) hj, RO8.out.cell (j := j) (by omega)]
                    unfold cell2
                    rw [if_pos (by omega)])
                  have u0 : (0 : Int) ≤ (k : Int) := by omega
                  have u1 : (k : Int) ≤ (k : Int) + 1 := by omega
                  go_wp2_with (at_builtin; refine wpList_grow rfl _ _ 71 rfl W8.heap.size 21 .i32 0 4 Yba.underlying71 info21 (.slice none 0 0) #[] rfl (Grow.nil _ _ _ _) ⟨go, 0, none⟩ k (k + 1) (Array.ofFn (n := k) (fun j => (offs U V m j.1 : Int))) (by simp) rfl xN.out ?hb ?h63 (Nat.le_refl _) ?hK)
                  case hb => simp; omega
                  case h63 => simp [maxLen]; omega
                  case hK =>
                    intro v' W9 Q9 hgr hnil
                    clear hnil
                    have fb : But [] W8 W9 := But.own hgr (by simp [Value.ownBlock])
                    have h89 := fb.size
                    have hlga : ga < W8.heap.size := RA8.out.lt
                    obtain ⟨an, gn, cn, tn, rfl, hgn, hkn, hN9⟩ := next_shape (k := k) (by simp) Q9
                    have hagn : ga < gn := by omega
                    have RG9 := hide (RowF.but RG8.out fb (by simp))
                    have R99 := hide (RowF.but R98.out fb (by simp))
                    have RO9 := hide (RowF.but RO8.out fb (by simp))
                    have RB9 := hide (RowF.but RB8.out fb (by simp))
                    have HL9 := hide (HL8.out.but fb (by simp))
                    have hArr9 : Hid (Arr W9 (some ⟨gi, 0, none⟩) k .u64 (fun j => J[j]!)) := hide (fun j hj => by
                      obtain ⟨b, off, e, hc⟩ := hArr8.out j hj
                      simp at e
                      obtain ⟨rfl, rfl⟩ := e
                      exact ⟨_, _, rfl, fb.cell hc (by simp)⟩)
                    have HF9 := hide (HF8.out.new fb)
                    have I9 : Hid (Inv W9 W9 ga gn k cn m tn U V 0 (fun _ => 0)) := hide ⟨But.refl _ _, RowF.but RA8.out fb (by simp), fun e' he' => absurd he' (Nat.not_lt_zero _), fun hk => (hN9 hk).2.congr (fun j _ => by
                      by_cases hj : j < k
                      · rw [if_pos hj, if_pos hj, ofFn_at (fun j => (offs U V m j : Int)) hj]; rfl
                      · rw [if_neg hj, if_neg hj])⟩
                    have HAN : Hid (0 < k → an = some ⟨gn, 0, none⟩) := hide (fun hk => (hN9 hk).1)
                    clear hN9 Q9 hgr fb h89 RG8 R98 RO8 RB8 HL8 hArr8 HF8 RA8 x9 xG xN hgn hlga
                    have c9 := RB9.out.cell (j := 0) (by omega)
                    go_wp2_with fail
                    clear c9
                    go_loopw [158, 16, 17, 18] (fun vx _ _ _ wr => ∃ (t : Nat) (A : Nat → Int), vx = .int .i64 t ∧ t ≤ m ∧ Hid (Inv W9 wr ga gn k cn m tn U V (2 * t) A)) (fun vx _ _ _ _ => m - (intOf vx).toNat)
                    case atStart => exact ⟨0, _, rfl, Nat.zero_le _, I9⟩
                    case round =>
                      clear I9
                      rename World => wq
                      obtain ⟨t, A, rfl, ht, IQ⟩ := hrel
                      by_cases hlt : t < m
                      · obtain ⟨x, hx⟩ : ∃ x, x = L[t]!.1 := ⟨_, rfl⟩
                        obtain ⟨y, hy⟩ : ∃ y, y = L[t]!.2 := ⟨_, rfl⟩
                        have HX := hide hx
                        have HY := hide hy
                        have HLq := HL9.out.but IQ.out.but (by simp; omega)
                        have c0 : wq.cell? ⟨g, t * 2, none⟩ = some (.int .u64 x) := by rw [hx]; exact HLq.cell0 (by omega)
                        have c1 : wq.cell? ⟨g, t * 2 + 1, none⟩ = some (.int .u64 y) := by rw [hy]; exact HLq.cell1 (by omega)
                        clear hx hy HLq
                        have q1 : (0 : Int) ≤ t := by omega
                        have q2 : (t : Int) < m := by omega
                        have hk0 : 0 < k := by have := HE.out.ltU t hlt; omega
                        obtain rfl := HAN.out hk0
                        clear HAN
                        go_upto_region 36 with fail
                        have p0 : (wq.alloc (Obj.cells #[.int .u64 x, .int .u64 y] 65)).cell? ⟨wq.heap.size, 0, none⟩ = some (.int .u64 x) := by
                          rw [cell_of_row _ _ _ _ _ _ (heap_alloc_new _ _)]; rfl
                        have p1 : (wq.alloc (Obj.cells #[.int .u64 x, .int .u64 y] 65)).cell? ⟨wq.heap.size, 1, none⟩ = some (.int .u64 y) := by
                          rw [cell_of_row _ _ _ _ _ _ (heap_alloc_new _ _)]; rfl
                        have IA := hide (IQ.out.alloc (Obj.cells #[.int .u64 x, .int .u64 y] 65))
                        have hlga : ga ≠ wq.heap.size := by have := IQ.out.adj.lt; omega
                        have hlgn : gn ≠ wq.heap.size := by have := (IQ.out.next hk0).lt; omega
                        generalize hwA : wq.alloc (Obj.cells #[.int .u64 x, .int .u64 y] 65) = wA at p0 p1 IA ⊢
                        generalize hsz : wq.heap.size = lb at p0 p1 hlga hlgn ⊢
                        clear hwA hsz c0 c1 IQ
                        obtain ⟨p, hp⟩ : ∃ p, p = U t := ⟨_, rfl⟩
                        obtain ⟨q, hq⟩ : ∃ q, q = V t := ⟨_, rfl⟩
                        have hpk : p < k := by rw [hp]; exact HE.out.ltU t hlt
                        have hqk : q < k := by rw [hq]; exact HE.out.ltV t hlt
                        have HP := hide hp
                        have HQ := hide hq
                        go_cut [17, 18, 158] from 158 to 202 (fun s17 s18 s158 wz => s17 = .int .i32 (p : Int) ∧ s18 = .int .i32 (q : Int) ∧ s158 = .int .i64 t ∧ Hid (Inv W9 wz ga gn k cn m tn U V (2 * t) A))
                        case first =>
                          have hxp : J[p]! = x := by rw [hp, HE.out.atU t hlt]; exact HX.out.symm
                          have hyq : J[q]! = y := by rw [hq, HE.out.atV t hlt]; exact HY.out.symm
                          have HXP := hide hxp
                          have HYQ := hide hyq
                          have hloX : Hid (∀ t', t' < p → J[t']! < x) := hide (by rw [← hxp]; exact HE.out.lo hpk)
                          have hhiX : Hid (∀ t', p ≤ t' → t' < k → x ≤ J[t']!) := hide (by rw [← hxp]; exact HE.out.hi)
                          have hloY : Hid (∀ t', t' < q → J[t']! < y) := hide (by rw [← hyq]; exact HE.out.lo hqk)
                          have hhiY : Hid (∀ t', q ≤ t' → t' < k → y ≤ J[t']!) := hide (by rw [← hyq]; exact HE.out.hi)
                          have n9 : Hid (B9 ∉ [ga, gn]) := hide (by simp; omega)
                          have nG : Hid (G ∉ [ga, gn]) := hide (by simp; omega)
                          have ni : Hid (gi ∉ [ga, gn]) := hide (by simp; omega)
                          have II : Hid (Inv W9 wA.drew ga gn k cn m tn U V (2 * t) A ∧ wA.drew.cell? ⟨lb, 0, none⟩ = some (.int .u64 x) ∧ wA.drew.cell? ⟨lb, 1, none⟩ = some (.int .u64 y)) := hide ⟨IA.out.drew, p0, p1⟩
                          have hxy : x ≠ y := by have := HE.out.uv t hlt; rw [← HX.out, ← HY.out] at this; omega
                          obtain ⟨pl, hplx, hply⟩ : ∃ pl : Int → Nat, pl x = p ∧ pl y = q := ⟨fun z => if z = x then p else q, by simp, by simp [hxy.symm]⟩
                          have HPX := hide hplx
                          have HPY := hide hply
                          have CC : Hid (∀ z, z = x ∨ z = y → ∀ W, Hid (Inv W9 W ga gn k cn m tn U V (2 * t) A ∧ W.cell? ⟨lb, 0, none⟩ = some (.int .u64 x) ∧ W.cell? ⟨lb, 1, none⟩ = some (.int .u64 y)) →
                            Calls Yba.prog 17 #[.int .u64 z, .pointer (some ⟨B9, 0, none⟩)] W fun e' w' => e' = .returned (.int .i32 (pl z : Nat)) ∧ Hid (Inv W9 w' ga gn k cn m tn U V (2 * t) A ∧ w'.cell? ⟨lb, 0, none⟩ = some (.int .u64 x) ∧ w'.cell? ⟨lb, 1, none⟩ = some (.int .u64 y))) := hide (fun z hz => by
                            rcases hz with rfl | rfl
                            · rw [hplx]
                              exact idxI (W9 := W9) (ga := ga) (gn := gn) (k := k) (cn := cn) (m := m) (tn := tn) (U := U) (V := V) (e := 2 * t) (A := A) (lb := lb) R99.out RG9.out hArr9.out n9.out nG.out ni.out (by omega) z p hpk hloX hhiX HXP.out
                            · rw [hply]
                              exact idxI (W9 := W9) (ga := ga) (gn := gn) (k := k) (cn := cn) (m := m) (tn := tn) (U := U) (V := V) (e := 2 * t) (A := A) (lb := lb) R99.out RG9.out hArr9.out n9.out nG.out ni.out (by omega) z q hqk hloY hhiY HYQ.out)
                          clear hxy hplx hply
                          clear hxp hyq hp hq
                          go_region_held3 (fun w' => w'.cell? ⟨lb, 0, none⟩ = some (.int .u64 x) ∧ w'.cell? ⟨lb, 1, none⟩ = some (.int .u64 y)) (go_keep)
                            ((go_at_call 17; refine (CC.out _ ?_ _ ?_).mono ?_; · first | exact Or.inl rfl | exact Or.inr rfl
                              · first | exact I2 | exact II
                              rintro e w2 ⟨rfl, I2⟩
                              have d0 := I2.out.2.1
                              have d1 := I2.out.2.2))
                          all_goals (go_wp2; go_meet)
                          all_goals
                            exact ⟨by rw [HPX.out], by rw [HPY.out], rfl, hide I2.out.1⟩
                        case rest =>
                          clear p0 p1 IA hlga hlgn
                          rename World => wz
                          obtain ⟨rfl, rfl, rfl, IZ⟩ := hcut
                          obtain ⟨s1, hs1⟩ : ∃ s1, s1 = cell3 U V m (2 * t) p := ⟨_, rfl⟩
                          have hn1 : node U V (2 * t) = p := by rw [node_even, hp]
                          have hm1 : node V U (2 * t) = q := by rw [node_even, hq]
                          have hsb1 : s1 < 2 * m := by
                            have := HE.out.slot_bound (e := 2 * t) (by omega)
                            unfold slot at this
                            rw [hn1] at this
                            rw [hs1]; exact this
                          have hNz := IZ.out.next hk0
                          have z9 : wz.cell? ⟨B9, 0, none⟩ = some (.pointer (some ⟨G, 0, none⟩)) := (RowF.but R99.out IZ.out.but (by simp; omega)).cell (j := 0) (by omega)
                          have zG : wz.cell? ⟨G, 2, none⟩ = some (.slice (some ⟨ga, 0, none⟩) (2 * m) (2 * m)) := (RowF.but RG9.out IZ.out.but (by simp; omega)).cell (j := 2) (by omega)
                          have zn : wz.cell? ⟨gn, p, none⟩ = some (.int .i32 (s1 : Int)) := by
                            have := hNz.cell (j := p) (by omega)
                            rw [if_pos hpk, ← hs1] at this
                            exact this
                          have za : wz.cell? ⟨ga, s1, none⟩ = some (.int .i32 (A s1)) := IZ.out.adj.cell hsb1
                          have fa := IZ.out.adj.frozen s1
                          have fn := hNz.frozen p
                          have HH : Hid (∃ A', Inv W9 ((wz.setCell ⟨ga, s1, none⟩ (.int .i32 (q : Int))).setCell ⟨gn, p, none⟩ (.int .i32 ((s1 : Int) + 1))).drew ga gn k cn m tn U V (2 * t + 1) A') := hide ((IZ.out.half (by omega) (by omega) hn1 hpk hm1 hs1.symm).imp (fun _ h => h.drew))
                          have e1 : (0 : Int) ≤ (p : Int) := by omega
                          have e2 : (p : Int) < (k : Int) := by omega
                          have e3 : (0 : Int) ≤ (s1 : Int) := by omega
                          have e4 : (s1 : Int) < 2 * (m : Int) := by omega
                          have e5 : (s1 : Int) + 1 ≤ 4096 := by omega
                          have nan : ga ≠ gn := by omega
                          have wp : IntKind.i32.wrap ((s1 : Int) + 1) = (s1 : Int) + 1 := wrap32 (by omega) (by omega)
                          clear hNz hs1 hn1 hm1 hp hq
                          go_wp2_with fail
                          go_region
                          go_wp2_with fail
                          generalize hwv : ((wz.setCell ⟨ga, s1, none⟩ (.int .i32 (q : Int))).setCell ⟨gn, p, none⟩ (.int .i32 ((s1 : Int) + 1))).drew = wv at HH ⊢
                          clear hwv z9 zG zn za fa fn IZ wp e3 e4 e5 hsb1
                          obtain ⟨A2, hA2⟩ := HH.out
                          have IV := hide hA2
                          clear hA2 HH
                          obtain ⟨s2, hs2⟩ : ∃ s2, s2 = cell3 U V m (2 * t + 1) q := ⟨_, rfl⟩
                          have hn2 : node U V (2 * t + 1) = q := by rw [node_odd, HQ.out]
                          have hm2 : node V U (2 * t + 1) = p := by rw [node_odd, HP.out]
                          have hsb2 : s2 < 2 * m := by
                            have := HE.out.slot_bound (e := 2 * t + 1) (by omega)
                            unfold slot at this
                            rw [hn2] at this
                            rw [hs2]; exact this
                          have hNz := IV.out.next hk0
                          have z9 : wv.cell? ⟨B9, 0, none⟩ = some (.pointer (some ⟨G, 0, none⟩)) := (RowF.but R99.out IV.out.but (by simp; omega)).cell (j := 0) (by omega)
                          have zG : wv.cell? ⟨G, 2, none⟩ = some (.slice (some ⟨ga, 0, none⟩) (2 * m) (2 * m)) := (RowF.but RG9.out IV.out.but (by simp; omega)).cell (j := 2) (by omega)
                          have zn : wv.cell? ⟨gn, q, none⟩ = some (.int .i32 (s2 : Int)) := by
                            have := hNz.cell (j := q) (by omega)
                            rw [if_pos hqk, ← hs2] at this
                            exact this
                          have za : wv.cell? ⟨ga, s2, none⟩ = some (.int .i32 (A2 s2)) := IV.out.adj.cell hsb2
                          have fa := IV.out.adj.frozen s2
                          have fn := hNz.frozen q
                          have HH : Hid (∃ A', Inv W9 ((wv.setCell ⟨ga, s2, none⟩ (.int .i32 (p : Int))).setCell ⟨gn, q, none⟩ (.int .i32 ((s2 : Int) + 1))).drew ga gn k cn m tn U V (2 * t + 1 + 1) A') := hide ((IV.out.half (by omega) (by omega) hn2 hqk hm2 hs2.symm).imp (fun _ h => h.drew))
                          have e3 : (0 : Int) ≤ (q : Int) := by omega
                          have e4 : (q : Int) < (k : Int) := by omega
                          have e5 : (0 : Int) ≤ (s2 : Int) := by omega
                          have e6 : (s2 : Int) < 2 * (m : Int) := by omega
                          have wp : IntKind.i32.wrap ((s2 : Int) + 1) = (s2 : Int) + 1 := wrap32 (by omega) (by omega)
                          clear hNz hs2 hn2 hm2
                          go_region
                          go_wp2
                          go_roundw
                          case rel =>
                            obtain ⟨A3, hA3⟩ := HH.out
                            exact ⟨t + 1, A3, by go_num, by omega, hide hA3⟩
                          case measure => simp [intOf]; omega
                      · obtain rfl : m = t := by omega
                        clear hlt ht HAN
                        have RO10 := RowF.but RO9.out IQ.out.but (by simp; omega)
                        have R910 := hide (RowF.but R99.out IQ.out.but (by simp; omega))
                        have RG10 := hide (RowF.but RG9.out IQ.out.but (by simp; omega))
                        have HO10 := hide RO10
                        have HF10 : Hid (But [g] w wq) := hide (HF9.out.step IQ.out.but (fun y hy => Or.inr (by simp at hy; omega)))
                        have hArr10 : Hid (Arr wq (some ⟨gi, 0, none⟩) k .u64 (fun j => J[j]!)) := hide (fun j hj => by
                          obtain ⟨b, off, e, hc⟩ := hArr9.out j hj
                          simp at e
                          obtain ⟨rfl, rfl⟩ := e
                          exact ⟨_, _, rfl, IQ.out.but.cell hc (by simp; omega)⟩)
                        have HSC := hide IQ.out.scat
                        have HAd := hide IQ.out.adj
                        clear RO10 R99 RG9 RO9 HL9 RB9 HF9 hArr9 IQ
                        go_wp2_with fail
                        go_loopw [19, 20] (fun vv _ wr => ∃ (v : Nat) (A' : Nat → Int), vv = .int .i64 v ∧ v ≤ k ∧ Hid (But [ga] wq wr) ∧ Hid (RowF wr ga 21 (2 * m) (fun j => .int .i32 (A' j))) ∧ Hid (∀ i, i < v → Done (offs U V m) A A' i) ∧ Hid (∀ j, offs U V m v ≤ j → A' j = A j)) (fun vv _ _ => k - (intOf vv).toNat)
                        case atStart => exact ⟨0, A, rfl, Nat.zero_le _, hide (But.refl _ _), HAd, hide (fun i hi => absurd hi (Nat.not_lt_zero _)), hide (fun j _ => rfl)⟩
                        case round =>
                          rename World => wv
                          obtain ⟨v, A', rfl, hv, FV, RV, DV, EV⟩ := hrel
                          have z9 : wv.cell? ⟨B9, 0, none⟩ = some (.pointer (some ⟨G, 0, none⟩)) := (RowF.but R910.out FV.out (by simp; omega)).cell (j := 0) (by omega)
                          have hG := RowF.but RG10.out FV.out (by simp; omega)
                          by_cases hlt : v < k
                          · have zG1 : wv.cell? ⟨G, 1, none⟩ = some (.slice (some ⟨go, 0, none⟩) (k + 1) (k + 1)) := hG.cell (j := 1) (by omega)
                            have zG2 : wv.cell? ⟨G, 2, none⟩ = some (.slice (some ⟨ga, 0, none⟩) (2 * m) (2 * m)) := hG.cell (j := 2) (by omega)
                            have hO := RowF.but HO10.out FV.out (by simp; omega)
                            obtain ⟨a, ha⟩ : ∃ a, a = offs U V m v := ⟨_, rfl⟩
                            obtain ⟨b, hb⟩ : ∃ b, b = offs U V m (v + 1) := ⟨_, rfl⟩
                            have ca : wv.cell? ⟨go, v, none⟩ = some (.int .i32 (a : Int)) := by
                              rw [hO.cell (j := v) (by omega), ha]; unfold cell2; rw [if_pos (by omega)]
                            have cb : wv.cell? ⟨go, v + 1, none⟩ = some (.int .i32 (b : Int)) := by
                              rw [hO.cell (j := v + 1) (by omega), hb]; unfold cell2; rw [if_pos (by omega)]
                            have hab : a ≤ b := by rw [ha, hb]; exact offs_le (by omega)
                            have hbm : b ≤ 2 * m := by rw [hb]; exact HE.out.offs_bound (by omega)
                            have HA := hide ha
                            have HB := hide hb
                            have hlt2 : a < 2 * m := by
                              have := HE.out.has (ids_ends HJI.out HMD.out) hlt
                              rw [← ha, ← hb] at this
                              omega
                            have HLT2 := hide hlt2
                            clear hlt2
                            have l9 : B9 < wv.heap.size := (RowF.but R910.out FV.out (by simp; omega)).lt
                            have lG := hG.lt
                            have lo := hO.lt
                            have AL := But.alloc wv (Obj.cells #[.slice none 0 0] 71)
                            have y9 := AL.cell z9 (by simp)
                            have yG1 := AL.cell zG1 (by simp)
                            have yG2 := AL.cell zG2 (by simp)
                            have yca := AL.cell ca (by simp)
                            have ycb := AL.cell cb (by simp)
                            have lgv : ga < wv.heap.size := RV.out.lt
                            clear ha hb hG hO AL
                            have e0 : (0 : Int) ≤ (v : Int) := by omega
                            have e1 : (0 : Int) ≤ (v : Int) + 1 := by omega
                            have e2 : (v : Int) + 1 < (k : Int) + 1 := by omega
                            have e3 : (v : Int) < (k : Int) + 1 := by omega
                            have e4 : (a : Int) ≤ (b : Int) := by omega
                            have e5 : (b : Int) ≤ 2 * (m : Int) := by omega
                            go_wp2_with fail
                            have wv1 : IntKind.i64.wrap ((v : Int) + 1) = (v : Int) + 1 := wrap64 (by omega) (by omega)
                            have n1 := World.new_ne wv ⟨B9, 0, none⟩ z9
                            have n2 := World.new_ne wv ⟨G, 1, none⟩ zG1
                            have n3 := World.new_ne wv ⟨G, 2, none⟩ zG2
                            have n4 := World.new_ne wv ⟨go, v, none⟩ ca
                            have n5 := World.new_ne wv ⟨go, v + 1, none⟩ cb
                            go_region_held3 (fun w' => w'.cell? ⟨B9, 0, none⟩ = some (.pointer (some ⟨G, 0, none⟩)) ∧ w'.cell? ⟨G, 1, none⟩ = some (.slice (some ⟨go, 0, none⟩) (k + 1) (k + 1)) ∧ w'.cell? ⟨G, 2, none⟩ = some (.slice (some ⟨ga, 0, none⟩) (2 * m) (2 * m)) ∧ w'.cell? ⟨go, v, none⟩ = some (.int .i32 (a : Int)) ∧ w'.cell? ⟨go, v + 1, none⟩ = some (.int .i32 (b : Int))) (go_keep) (fail)
                            go_wp2_with fail
                            case inl => rename_i h; exact absurd h (by have := HLT2.out; omega)
                            clear y9 yG1 yG2 yca ycb e0 e1 e2 e3 e4 e5 z9 zG1 zG2 ca cb
                            have FX := (FV.out.new (But.alloc wv (Obj.cells #[.slice (some ⟨ga, a, none⟩) (b - a) (2 * m - a)] 71))).new (But.drew _)
                            have RX := (RV.out.alloc (Obj.cells #[.slice (some ⟨ga, a, none⟩) (b - a) (2 * m - a)] 71)).drew
                            have cX : (wv.alloc (Obj.cells #[.slice (some ⟨ga, a, none⟩) (b - a) (2 * m - a)] 71)).drew.cell? ⟨wv.heap.size, 0, none⟩ = some (.slice (some ⟨ga, a, none⟩) (b - a) (2 * m - a)) := by
                              show (wv.alloc (Obj.cells #[.slice (some ⟨ga, a, none⟩) (b - a) (2 * m - a)] 71)).cell? ⟨wv.heap.size, 0, none⟩ = _
                              rw [cell_of_row _ _ _ _ _ _ (heap_alloc_new _ _)]; rfl
                            have hbg : wv.heap.size ≠ ga := by omega
                            generalize hwX : (wv.alloc (Obj.cells #[.slice (some ⟨ga, a, none⟩) (b - a) (2 * m - a)] 71)).drew = wX at FX RX cX ⊢
                            generalize hBs : wv.heap.size = Bs at cX hbg ⊢
                            clear hwX hBs l9 lG lo lgv
                            obtain ⟨d', hd'⟩ : ∃ d', d' = Array.ofFn (n := b - a) (fun j => A' (a + j.1)) := ⟨_, rfl⟩
                            have hsz : d'.size = b - a := by rw [hd']; simp
                            have hcall := sortPart wX ga a (2 * m) (2 * m - a) Bs (fun j => .int .i32 (A' j)) d' (by omega) RX (by omega) (fun j hj => by rw [hd', ofFn_at (fun j => A' (a + j)) (by omega)]) (by rw [hsz]; exact cX) hbg
                            rw [hsz] at hcall
                            refine hcall.mono ?_
                            rintro e w2 ⟨rfl, D', hp', hs', ho', hr'⟩
                            have hst := sort_step HE.out hlt HA.out HB.out HSC.out DV.out (by rw [HA.out]; exact EV.out) (by rw [← hd']; exact hp') hs'
                            have FY := hide (FX.trans (But.only ho'))
                            have RY : Hid (RowF w2 ga 21 (2 * m) (fun j => .int .i32 (put A' a (b - a) D' j))) := hide (hr'.congr (fun j _ => by
                              unfold put
                              by_cases hj : a ≤ j ∧ j < a + (b - a)
                              · rw [if_pos hj, if_pos hj]
                              · rw [if_neg hj, if_neg hj]))
                            have HST := hide hst
                            clear hcall hp' hs' ho' hr' hst FX RX cX hd' hsz
                            go_wp2
                            go_roundw
                            case rel => exact ⟨v + 1, put A' a (b - a) D', by go_num, by omega, FY, RY, hide HST.out.1, hide (by rw [← HB.out]; exact HST.out.2)⟩
                            case measure => simp [intOf]; omega
                          · obtain rfl : k = v := by omega
                            have hO := RowF.but HO10.out FV.out (by simp; omega)
                            have HG := hide hG
                            have HHO := hide hO
                            clear hG hO
                            go_wp2
                            go_ret
                            refine ⟨G, rfl, gi, go, ga, k, 2 * m, J, offs U V m, A', HF10.out.step FV.out (fun y hy => Or.inr (by simp at hy; omega)), HG.out, ?_, ?_, ?_, HE.out.total.symm, hkk, by omega, HE.out.sI, HJI.out, HE.out.csr HMD.out HSC.out DV.out⟩
                            · intro j hj
                              obtain ⟨b, off, e, hc⟩ := hArr10.out j hj
                              simp at e
                              obtain ⟨rfl, rfl⟩ := e
                              exact ⟨_, _, rfl, FV.out.cell hc (by simp; omega)⟩
                            · intro j hj
                              refine ⟨go, 0, rfl, ?_⟩
                              rw [Nat.zero_add, HHO.out.cell hj]
                              unfold cell2
                              rw [if_pos (by omega)]
                            · intro j hj
                              exact ⟨ga, 0, rfl, by rw [Nat.zero_add]; exact RV.out.cell hj⟩

end Go.Proofs.Ybulkdtni.lawS6014CWhole
