/-
  LawS6014CWhole: the walk.
-/
import Derived.Test.YbulkdtniMod
import Derived.Test.YbulkdtniFrom
namespace Go.Proofs.Ybulkdtni.lawS6014CWhole
open Go.RowKit Go.Proofs.Ybulkdtni.Own
open Go.Sort (ltInt PermIn SortedIn)

theorem one_new0 (w : World) (x y : Value) (e : TypeId) : (w.alloc (Obj.cells #[x, y] e)).cell? ⟨w.heap.size, 0, none⟩ = some x := by
  rw [cell_of_row _ _ _ _ _ _ (heap_alloc_new _ _)]; rfl
theorem one_new1 (w : World) (x y : Value) (e : TypeId) : (w.alloc (Obj.cells #[x, y] e)).cell? ⟨w.heap.size, 1, none⟩ = some y := by
  rw [cell_of_row _ _ _ _ _ _ (heap_alloc_new _ _)]; rfl
theorem one_new (w : World) (x : Value) (e : TypeId) : (w.alloc (Obj.cells #[x] e)).cell? ⟨w.heap.size, 0, none⟩ = some x := by
  rw [cell_of_row _ _ _ _ _ _ (heap_alloc_new _ _)]; rfl

theorem new_cell (w : World) (o : Obj) (x : Value) (e : TypeId) : ((w.alloc o).alloc (Obj.cells #[x] e)).cell? ⟨w.heap.size + 1, 0, none⟩ = some x := by
  have hs : (w.alloc o).heap.size = w.heap.size + 1 := by simp
  rw [← hs]
  exact one_new _ _ _

theorem link_new (w : World) (x y : Int) : ∀ j, j < 1 * 2 → (w.alloc (Obj.cells #[.int .u64 x, .int .u64 y] 65)).cell? ((⟨w.heap.size, 0, none⟩ : Addr).add j) = some (linkCell #[(x, y)] j) := by
  intro j hj
  rw [Addr.add_lit]
  have : j = 0 ∨ j = 1 := by omega
  rcases this with rfl | rfl
  · exact one_new0 _ _ _ _
  · exact one_new1 _ _ _ _

set_option maxRecDepth 100000 in
set_option maxHeartbeats 40000000 in
theorem law4 (w : World) (a : Option Addr) (n c : Nat) (P : Nat → Int × Int) (hA : Hid (ArrP w a n P)) :
    Calls Yba.prog 4 #[.slice a n c] w fun e w' => e = .returned (.bool true) ∧ Below w.heap.size w w' := by
  go_enter Yba.func4, Yba.ntmps4
  by_cases hbig : 2048 < n
  · have hd : decide ((2048 : Int) < (n : Int)) = true := decide_eq_true (by omega)
    go_wp2
    go_ret
    exact ⟨rfl, Below.refl _ _⟩
  · have hd : decide ((2048 : Int) < (n : Int)) = false := decide_eq_false (by omega)
    have hn : n ≤ 2048 := by omega
    go_wp2_with (at_make; refine wpList_make_links rfl _ _ rfl _ _ _ _ n rfl rfl rfl rfl (by omega) ?_)
    intro g0 w1 hg0 Q0 hb0
    have F1 : Hid (But [] w w1) := hide (But.below (by have := hg0.out; rwa [this] at hb0))
    have hg0' : g0 = w.heap.size := hg0.out
    have Q1 : Hid (GrowL w1 w.heap.size (.slice (some ⟨g0, 0, none⟩) 0 n) #[]) := hide (by rw [← hg0']; exact Q0)
    clear hg0 Q0 hb0 hg0' hbig hd
    go_wp2_with fail
    go_loopw [32, 3, 5, 6, 7] (fun vx v3 _ _ _ wr => ∃ (i : Nat) (D : Array (Int × Int)), vx = .int .i64 i ∧ i ≤ n ∧ D.size ≤ i ∧ Hid (But [] w wr) ∧ Hid (GrowL wr w.heap.size v3 D) ∧ Hid (v3 ≠ .slice none 0 0) ∧ Hid (∀ x ∈ D, x.1 < x.2)) (fun vx _ _ _ _ _ => n - (intOf vx).toNat)
    case atStart => exact ⟨0, #[], rfl, Nat.zero_le _, by simp, F1, Q1, hide (by simp), hide (by simp)⟩
    case round =>
      clear F1 Q1
      obtain ⟨i, D, rfl, hi, hDi, F, Q, HV, HD⟩ := hrel
      by_cases hlt : i < n
      · obtain ⟨b, off, rfl, hbl, c0', c1'⟩ := hA.out.new F.out i hlt
        obtain ⟨x, hx⟩ : ∃ x, x = (P i).1 := ⟨_, rfl⟩
        obtain ⟨y, hy⟩ : ∃ y, y = (P i).2 := ⟨_, rfl⟩
        have c0 : wr.cell? ⟨b, off + i * 2, none⟩ = some (.int .u64 x) := by rw [hx]; exact c0'
        have c1 : wr.cell? ⟨b, off + i * 2 + 1, none⟩ = some (.int .u64 y) := by rw [hy]; exact c1'
        clear hx hy c0' c1'
        have q1 : (0 : Int) ≤ i := by omega
        have q2 : (i : Int) < n := by omega
        by_cases hxy : x = y
        · have he : (x == y) = true := by simpa using hxy
          go_wp2
          go_roundw
          case rel => exact ⟨i + 1, D, by go_num, by omega, by omega, hide (F.out.new (But.alloc _ _)), hide (Q.out.but (But.alloc _ _) (by simp)), HV, HD⟩
          case measure => simp [intOf]; omega
        · have he : (x == y) = false := by simpa using hxy
          go_upto_region 8 with fail
          have p0 := one_new0 wr (.int .u64 x) (.int .u64 y) 63
          have p1 := one_new1 wr (.int .u64 x) (.int .u64 y) 63
          have FB : Hid (But [] w (wr.alloc (Obj.cells #[.int .u64 x, .int .u64 y] 63))) := hide (F.out.new (But.alloc _ _))
          have QB := hide (Q.out.but (But.alloc wr (Obj.cells #[.int .u64 x, .int .u64 y] 63)) (by simp))
          generalize hwB : wr.alloc (Obj.cells #[.int .u64 x, .int .u64 y] 63) = wB at p0 p1 FB QB ⊢
          generalize hsz : wr.heap.size = sb at p0 p1 ⊢
          clear hwB hsz c0 c1 F Q
          go_quiet (fail)
          have FC : Hid (But [] w (wB.drewN nq)) := hide (FB.out.new (But.drewN _ _))
          have QC := hide (QB.out.but (But.drewN wB nq) (by simp))
          generalize hwC : wB.drewN nq = wC at FC QC ⊢
          clear hwC p0 p1 FB QB
          have hbs := hide (FC.out.size)
          by_cases hgt : y < x
          · have hd : decide (y < x) = true := decide_eq_true hgt
            have QE := hide (QC.out.but (But.alloc wC (Obj.cells #[.int .u64 y, .int .u64 x] 65)) (by simp))
            have HN := hide (link_new wC y x)
            go_wp2_with (at_builtin; refine wpList_growL rfl _ _ 61 rfl w.heap.size Yba.underlying61 info65 _ D rfl QE.out ⟨wC.heap.size, 0, none⟩ 1 1 #[(y, x)] rfl rfl HN.out ?hb ?hbase ?hK)
            case hb => omega
            case hbase => have := hbs.out; simp; omega
            case hK =>
              intro v' w' Q2 hgr hnil
              have F2 := hide (QE.out.frame hgr (Nat.le_refl _) (FC.out.new (But.alloc _ _)))
              have HQ2 := hide Q2
              have HV' : Hid (v' ≠ .slice none 0 0) := hide (fun h => (hnil h).elim)
              clear hnil Q2 hgr QE HN QC FC hbs
              go_wp2
              go_roundw
              case rel => exact ⟨i + 1, D ++ #[(y, x)], by go_num, by omega, by simp; omega, F2, HQ2, HV', hide (fun z hz => by
                rcases Array.mem_append.1 hz with h | h
                · exact HD.out z h
                · simp at h; subst h; exact hgt)⟩
              case measure => simp [intOf]; omega
          · have hd : decide (y < x) = false := decide_eq_false hgt
            have QE := hide (QC.out.but (But.alloc wC (Obj.cells #[.int .u64 x, .int .u64 y] 65)) (by simp))
            have HN := hide (link_new wC x y)
            go_wp2_with (at_builtin; refine wpList_growL rfl _ _ 61 rfl w.heap.size Yba.underlying61 info65 _ D rfl QE.out ⟨wC.heap.size, 0, none⟩ 1 1 #[(x, y)] rfl rfl HN.out ?hb ?hbase ?hK)
            case hb => omega
            case hbase => have := hbs.out; simp; omega
            case hK =>
              intro v' w' Q2 hgr hnil
              have F2 := hide (QE.out.frame hgr (Nat.le_refl _) (FC.out.new (But.alloc _ _)))
              have HQ2 := hide Q2
              have HV' : Hid (v' ≠ .slice none 0 0) := hide (fun h => (hnil h).elim)
              clear hnil Q2 hgr QE HN QC FC hbs
              go_wp2
              go_roundw
              case rel => exact ⟨i + 1, D ++ #[(x, y)], by go_num, by omega, by simp; omega, F2, HQ2, HV', hide (fun z hz => by
                rcases Array.mem_append.1 hz with h | h
                · exact HD.out z h
                · simp at h; subst h; show x < y; omega)⟩
              case measure => simp [intOf]; omega
      · obtain rfl : n = i := by omega
        rcases Q.out.cases with ⟨h, _⟩ | ⟨gl, cl, tl, hv, hgl, hNc, hcm, HLl⟩
        · exact absurd h HV.out
        subst hv
        have hDN : D.size ≤ 2048 := by omega
        obtain ⟨N, hN⟩ : ∃ N, N = D.size := ⟨_, rfl⟩
        have hNw : Hid (∀ j, j < N * 2 → wr.cell? ((⟨gl, 0, none⟩ : Addr).add j) = some (linkCell D j)) := hide (fun j hj => by
          rw [Addr.add_lit, Nat.zero_add]
          have := HLl.2.2.1.cell (j := j) (by have := HLl.2.1; omega)
          rw [if_pos (by omega)] at this
          exact this)
        rw [← hN] at HLl hDN hNc ⊢
        have HL := hide HLl
        have HN := hide hN
        have hgs : gl < wr.heap.size := HLl.lt
        clear HLl hN Q HV hlt hcm
        go_wp2_with (at_builtin; refine wpList_growL rfl _ _ 61 rfl wr.heap.size Yba.underlying61 info65 (.slice none 0 0) #[] rfl (GrowL.nil _ _) ⟨gl, 0, none⟩ N cl D HN.out.symm rfl hNw.out ?hb (Nat.le_refl _) ?hK)
        case hb => simp; omega
        case hK =>
          intro v8 w2 Q2 hgr hnil
          have fb : But [] wr w2 := But.own hgr (by simp [Value.ownBlock])
          obtain ⟨a8, c8, rfl, hA8, hb8⟩ := Q2.arr
          have HA8 := hide hA8
          have HB8 := hide hb8
          have HL2 := hide (HL.out.but fb (by simp))
          have F2 := hide (F.out.new fb)
          rw [← HN.out] at HA8
          rw [← HN.out]
          clear hnil hgr Q2 fb hA8 hb8 HL F hNw
          go_wp2_with fail
          refine (from7 w2 gl (cl * 2) N cl tl D HL2.out (by omega) hNc HD.out).mono ?_
          rintro e w3 ⟨G, rfl, gi, go, ga, m, M, I, O, A, FW, RG, AI, AO, AA, hM, hm, hMb, sI, mI, hC⟩
          have F3 : Hid (But [] w w3) := hide (F2.out.step FW (fun y hy => Or.inr (by simp at hy; omega)))
          have HA3 : Hid (ArrP w3 a8 N (fun j => D[j]!)) := hide (HA8.out.but FW (fun b off e => by have := HB8.out b off e; simp; omega))
          have HRG := hide RG
          have HAI := hide AI
          have HAO := hide AO
          have HAA := hide AA
          have HsI := hide sI
          have HmI := hide mI
          have HC := hide hC
          have HM := hide hM
          clear FW RG AI AO AA sI mI hC hM F2 HL2 HA8 HB8
          have hw3 : Hid (w.heap.size ≤ w3.heap.size) := hide F3.out.size
          go_wp2_with (at_make; refine wpList_make_cap rfl _ _ 68 rfl 24 (.int .u64 0) 8 Yba.underlying68 info24 rfl _ _ _ _ 0 (2 * N) rfl rfl (by simp) (by simp) (by omega) (by omega) (by unfold maxLen; omega) ?_)
          intro g4 w4 hg4 hs4 hr4 hb4
          have F4 : Hid (But [] w3 w4) := hide (But.below (by have := hg4.out; rwa [this] at hb4))
          have hg4' : g4 = w3.heap.size := hg4.out
          have Q4 : Hid (Grow w4 w3.heap.size 24 .u64 (.slice (some ⟨g4, 0, none⟩) 0 (2 * N)) #[]) := hide (Grow.made hr4 (by omega) (by unfold maxLen; omega))
          clear hg4 hs4 hr4 hb4 hg4'
          go_wp2_with fail
          go_loopw [69, 10, 12] (fun vx v10 _ wr => ∃ (k : Nat) (E : Array Int), vx = .int .i64 k ∧ k ≤ N ∧ E.size = 2 * k ∧ Hid (But [] w3 wr) ∧ Hid (Grow wr w3.heap.size 24 .u64 v10 E) ∧ Hid (v10 ≠ .slice none 0 0) ∧ Hid (∀ x, x ∈ E ↔ ∃ t, t < k ∧ (D[t]!.1 = x ∨ D[t]!.2 = x))) (fun vx _ _ _ => N - (intOf vx).toNat)
          case atStart => exact ⟨0, #[], rfl, Nat.zero_le _, rfl, F4, Q4, hide (by simp), hide (fun x => by simp)⟩
          case round =>
            clear F4 Q4
            rename World => wy
            obtain ⟨k, E, rfl, hk, hE, F, Q, HV, HE⟩ := hrel
            by_cases hlt : k < N
            · obtain ⟨b, off, rfl, hbl, c0', c1'⟩ := HA3.out.new F.out k hlt
              obtain ⟨x, hx⟩ : ∃ x, x = D[k]!.1 := ⟨_, rfl⟩
              obtain ⟨y, hy⟩ : ∃ y, y = D[k]!.2 := ⟨_, rfl⟩
              have c0 : wy.cell? ⟨b, off + k * 2, none⟩ = some (.int .u64 x) := by rw [hx]; exact c0'
              have c1 : wy.cell? ⟨b, off + k * 2 + 1, none⟩ = some (.int .u64 y) := by rw [hy]; exact c1'
              have HX := hide hx
              have HY := hide hy
              clear hx hy c0' c1'
              have q1 : (0 : Int) ≤ k := by omega
              have q2 : (k : Int) < N := by omega
              have BB : Hid (But [] wy ((wy.alloc (Obj.cells #[.int .u64 x, .int .u64 y] 65)).alloc (Obj.cells #[.int .u64 x, .int .u64 y] 24))) := hide ((But.alloc _ _).new (But.alloc _ _))
              have HNw := hide (And.intro (new_cell0 wy (Obj.cells #[.int .u64 x, .int .u64 y] 65) (.int .u64 x) (.int .u64 y) 24) (new_cell1 wy (Obj.cells #[.int .u64 x, .int .u64 y] 65) (.int .u64 x) (.int .u64 y) 24))
              have Q1 := hide (Q.out.but BB.out (by simp))
              have hbs := hide (Nat.le_trans F.out.size BB.out.size)
              go_wp2_with (at_builtin; refine wpList_grow rfl _ _ 68 rfl w3.heap.size 24 .u64 0 8 Yba.underlying68 info24 _ E rfl Q1.out ⟨wy.heap.size + 1, 0, none⟩ 2 2 #[x, y] rfl rfl ?hn ?hb ?h63 hbs.out ?hK)
              case hn =>
                intro j hj
                rw [Addr.add_lit]
                match j, hj with
                | 0, _ => exact HNw.out.1
                | 1, _ => exact HNw.out.2
              case hb => omega
              case h63 => unfold maxLen; omega
              case hK =>
                intro v' w' Q2 hgr hnil
                have F2 := hide (Q1.out.frame hgr (Nat.le_refl _) (F.out.new BB.out))
                have HQ2 := hide Q2
                have HV' : Hid (v' ≠ .slice none 0 0) := hide (fun h => (hnil h).elim)
                clear hnil Q2 hgr Q1 BB HNw hbs c0 c1 Q F
                go_wp2
                go_roundw
                case rel => exact ⟨k + 1, E ++ #[x, y], by go_num, by omega, by simp; omega, F2, HQ2, HV', hide (fun z => by
                  rw [Array.mem_append, HE.out z]
                  constructor
                  · rintro (⟨t, ht, e⟩ | e)
                    · exact ⟨t, by omega, e⟩
                    · simp at e
                      exact ⟨k, by omega, by rw [← HX.out, ← HY.out]; rcases e with e | e <;> simp [e]⟩
                  · rintro ⟨t, ht, e⟩
                    by_cases htk : t = k
                    · subst htk
                      rw [← HX.out, ← HY.out] at e
                      exact Or.inr (by rcases e with e | e <;> simp [e])
                    · exact Or.inl ⟨t, by omega, e⟩)⟩
                case measure => simp [intOf]; omega
            · obtain rfl : N = k := by omega
              rcases Q.out.cases with ⟨h, _⟩ | ⟨gd, cd, td, hv, hgd, hcd, hcm, hrd⟩
              · exact absurd h HV.out
              subst hv
              have SD : Hid (St wy wy gd cd E.size td E) := hide ⟨rfl, hcd, hrd, Only.refl _ _⟩
              have hEs : E.size ≤ 4096 := by omega
              obtain ⟨n0, hn0⟩ : ∃ n0, n0 = E.size := ⟨_, rfl⟩
              rw [← hn0] at SD hcd hEs ⊢
              have HN0 := hide hn0
              clear hrd hn0 hE Q hcm hlt hk HV
              go_wp2_with fail
              refine (sort8 wy gd cd n0 cd td E SD.out (by omega)).mono ?_
              rintro e w5 ⟨E1, rfl, S5, P5, O5⟩
              have HS5 := hide S5
              have HP5 := hide P5
              have HO5 := hide O5
              clear S5 P5 O5
              go_wp2_with fail
              refine (compact9 w5 gd cd n0 cd td E1 HS5.out.start HO5.out (by omega) hcd).mono ?_
              rintro e w6 ⟨m', I', f', rfl, hm', hI's, ho6, hr6, hf6, hst6, hme6⟩
              obtain ⟨rfl, hsame⟩ := ids_same HN.out HE.out HN0.out HP5.out hme6 hst6 HsI.out HmI.out
              have F6 : Hid (But [] w3 w6) := hide ((F.out.step (But.only HS5.out.2.2.2) (fun y hy => Or.inr (by simp at hy; omega))).step (But.only ho6) (fun y hy => Or.inr (by simp at hy; omega)))
              have AI6 : Hid (Arr w6 (some ⟨gd, 0, none⟩) m' .u64 (fun j => I[j]!)) := hide (fun j hj => ⟨gd, 0, rfl, by
                rw [Nat.zero_add, hr6.cell (j := j) (by omega), hf6 j hj, hsame j hj]⟩)
              have hgd6 : gd < w6.heap.size := hr6.lt
              clear hm' hI's ho6 hr6 hf6 hst6 hme6 hsame HS5 HP5 HO5 SD F HE HN0 hcd hgd hEs
              go_wp2_with (at_make; refine wpList_make_cap rfl _ _ 71 rfl 21 (.int .i32 0) 4 Yba.underlying71 info21 rfl _ _ _ _ 1 (m' + 1) rfl rfl (by simp) (by simp) (by omega) (by omega) (by unfold maxLen; omega) ?_)
              intro g7 w7 hg7 hs7 hr7 hb7
              have hg7' : g7 = w6.heap.size := hg7.out
              have FX : But [] w6 w7 := But.below (by rw [← hg7']; exact hb7)
              have F7 : Hid (But [] w3 w7) := hide (F6.out.new FX)
              have AI7 : Hid (Arr w7 (some ⟨gd, 0, none⟩) m' .u64 (fun j => I[j]!)) := hide (AI6.out.but FX (fun _ _ _ => by simp))
              have B7 : Hid (Bd w7 w7 g7 m' 0 (fun _ => 0) (.slice none 0 0) #[]) := hide ⟨But.refl _ _, hr7.lt, hr7.congr (fun j _ => by simp), Grow.nil _ _ _ _⟩
              have hgd7 : gd < g7 := by omega
              have hgG : Hid (w3.heap.size ≤ g7) := hide (by have := F6.out.size; omega)
              clear hg7 hs7 hr7 hb7 hg7' FX AI6 F6 hgd6
              go_wp2_with fail
              go_loopw [91, 13, 14, 16, 17, 19, 21, 22, 23] (fun vx v13 v14 _ _ _ _ _ _ wr => ∃ (i : Nat) (O' : Nat → Nat) (B : Array Int), vx = .int .i64 i ∧ v13 = .slice (some ⟨g7, 0, none⟩) (i + 1) (m' + 1) ∧ i ≤ m' ∧ Hid (Bd w7 wr g7 m' i O' v14 B) ∧ Hid (Csr i (Rel D I m') O' (fun t => B[t]!)) ∧ Hid (B.size = O' i) ∧ B.size ≤ i * 2048) (fun vx _ _ _ _ _ _ _ _ _ => m' - (intOf vx).toNat)
              case atStart => exact ⟨0, _, #[], rfl, rfl, Nat.zero_le _, B7, hide ⟨rfl, fun i hi => absurd hi (Nat.not_lt_zero _), fun i hi => absurd hi (Nat.not_lt_zero _), fun i hi => absurd hi (Nat.not_lt_zero _)⟩, hide rfl, by simp⟩
              case round =>
                clear B7
                rename World => wz
                obtain ⟨i, O', B, rfl, rfl, hi', HB, HCs, HBs, hBb⟩ := hrel
                by_cases hlt : i < m'
                · obtain ⟨id, hid⟩ : ∃ id, id = I[i]! := ⟨_, rfl⟩
                  have HID := hide hid
                  have q1 : (0 : Int) ≤ i := by omega
                  have q2 : (i : Int) < m' := by omega
                  have cI : wz.cell? ⟨gd, i, none⟩ = some (.int .u64 id) := by
                    obtain ⟨b, off, e, hc⟩ := AI7.out i hlt
                    simp at e
                    obtain ⟨rfl, rfl⟩ := e
                    rw [Nat.zero_add] at hc
                    rw [hid]
                    exact HB.out.but.cell hc (by simp; omega)
                  clear hid
                  go_wp2_with fail
                  clear cI
                  go_loopw [97, 17, 19] (fun vx v17 _ wr => ∃ (j : Nat) (C : Array Int), vx = .int .i64 j ∧ j ≤ N ∧ C.size ≤ j ∧ Hid (Bd w7 wr g7 m' i O' u14 B) ∧ Hid (Grow wr w7.heap.size 24 .u64 v17 C) ∧ Hid (∀ z, z ∈ C ↔ Nb D id j z)) (fun vx _ _ _ => N - (intOf vx).toNat)
                  case atStart => exact ⟨0, #[], rfl, Nat.zero_le _, by simp, HB, hide (Grow.nil _ _ _ _), hide (fun z => ⟨fun h => by simp at h, fun ⟨t, ht, _⟩ => absurd ht (Nat.not_lt_zero _)⟩)⟩
                  case round =>
                    clear HB
                    rename World => wu
                    obtain ⟨j, C, rfl, hj, hCj, HB, HQ, HCm⟩ := hrel
                    by_cases hltj : j < N
                    · obtain ⟨b, off, rfl, hbl, c0', c1'⟩ := HA3.out.new (F7.out.step HB.out.but (fun y hy => Or.inr (by have := hgG.out; simp at hy; omega))) j hltj
                      obtain ⟨x, hx⟩ : ∃ x, x = D[j]!.1 := ⟨_, rfl⟩
                      obtain ⟨y, hy⟩ : ∃ y, y = D[j]!.2 := ⟨_, rfl⟩
                      have c0 : wu.cell? ⟨b, off + j * 2, none⟩ = some (.int .u64 x) := by rw [hx]; exact c0'
                      have c1 : wu.cell? ⟨b, off + j * 2 + 1, none⟩ = some (.int .u64 y) := by rw [hy]; exact c1'
                      have hst := nb_step HCm.out hx hy (by rw [hx, hy]; exact HD.out _ (mem_iff.2 ⟨j, by have := HN.out; omega, rfl⟩))
                      have HST := hide hst
                      clear hx hy c0' c1' hst
                      have r1 : (0 : Int) ≤ j := by omega
                      have r2 : (j : Int) < N := by omega
                      have BB : Hid (But [] wu ((wu.alloc (Obj.cells #[.int .u64 x, .int .u64 y] 65)).alloc (Obj.cells #[.int .u64 y] 24))) := hide ((But.alloc _ _).new (But.alloc _ _))
                      have BB' : Hid (But [] wu ((wu.alloc (Obj.cells #[.int .u64 x, .int .u64 y] 65)).alloc (Obj.cells #[.int .u64 x] 24))) := hide ((But.alloc _ _).new (But.alloc _ _))
                      by_cases hxi : x = id
                      · have e1 : (x == id) = true := by simpa using hxi
                        have HXI := hide hxi
                        clear hxi
                        have Q1 := hide (HQ.out.but BB.out (by simp))
                        have D1 := hide (HB.out.new BB.out)
                        have HNw := hide (new_cell wu (Obj.cells #[.int .u64 x, .int .u64 y] 65) (.int .u64 y) 24)
                        have hbs := hide (Nat.le_trans HB.out.but.size BB.out.size)
                        go_wp2_with (at_builtin; refine wpList_grow rfl _ _ 68 rfl w7.heap.size 24 .u64 0 8 Yba.underlying68 info24 _ C rfl Q1.out ⟨wu.heap.size + 1, 0, none⟩ 1 1 #[y] rfl rfl ?hn ?hb ?h63 hbs.out ?hK)
                        case hn =>
                          intro t ht
                          rw [Addr.add_lit]
                          obtain rfl : t = 0 := by omega
                          exact HNw.out
                        case hb => omega
                        case h63 => unfold maxLen; omega
                        case hK =>
                          intro v' w' Q2 hgr _
                          have HB2 := hide (D1.out.keep Q1.out hgr)
                          have HQ2 := hide Q2
                          clear Q2 hgr Q1 BB BB' HNw hbs c0 c1 HQ HB D1
                          go_wp2
                          go_roundw
                          case rel => exact ⟨j + 1, C ++ #[y], by go_num, by omega, by simp; omega, HB2, HQ2, hide (HST.out.1 HXI.out)⟩
                          case measure => simp [intOf]; omega
                      · have e1 : (x == id) = false := by simpa using hxi
                        have HXI := hide hxi
                        clear hxi
                        by_cases hyi : y = id
                        · have e2 : (y == id) = true := by simpa using hyi
                          have HYI := hide hyi
                          clear hyi
                          have Q1 := hide (HQ.out.but BB'.out (by simp))
                          have D1 := hide (HB.out.new BB'.out)
                          have HNw := hide (new_cell wu (Obj.cells #[.int .u64 x, .int .u64 y] 65) (.int .u64 x) 24)
                          have hbs := hide (Nat.le_trans HB.out.but.size BB'.out.size)
                          go_wp2_with (at_builtin; refine wpList_grow rfl _ _ 68 rfl w7.heap.size 24 .u64 0 8 Yba.underlying68 info24 _ C rfl Q1.out ⟨wu.heap.size + 1, 0, none⟩ 1 1 #[x] rfl rfl ?hn ?hb ?h63 hbs.out ?hK)
                          case hn =>
                            intro t ht
                            rw [Addr.add_lit]
                            obtain rfl : t = 0 := by omega
                            exact HNw.out
                          case hb => omega
                          case h63 => unfold maxLen; omega
                          case hK =>
                            intro v' w' Q2 hgr _
                            have HB2 := hide (D1.out.keep Q1.out hgr)
                            have HQ2 := hide Q2
                            clear Q2 hgr Q1 BB BB' HNw hbs c0 c1 HQ HB D1
                            go_wp2
                            go_roundw
                            case rel => exact ⟨j + 1, C ++ #[x], by go_num, by omega, by simp; omega, HB2, HQ2, hide (HST.out.2.1 HYI.out)⟩
                            case measure => simp [intOf]; omega
                        · have e2 : (y == id) = false := by simpa using hyi
                          have HYI := hide hyi
                          clear hyi BB BB'
                          go_wp2
                          go_roundw
                          case rel => exact ⟨j + 1, C, by go_num, by omega, by omega, hide (HB.out.new (But.alloc _ _)), hide (HQ.out.but (But.alloc _ _) (by simp)), hide (HST.out.2.2 HXI.out HYI.out)⟩
                          case measure => simp [intOf]; omega
                    · obtain rfl : N = j := by omega
                      obtain ⟨z0, hz0⟩ := nb_some HmI.out hlt
                      rw [← HN.out] at hz0
                      rcases HQ.out.cases with ⟨_, h⟩ | ⟨gb, cb, tb, hv, hgb, hcb, hcm, hrb⟩
                      · have := (HCm.out z0).2 (by rw [HID.out]; exact hz0)
                        rw [h] at this
                        simp at this
                      subst hv
                      have SD : Hid (St wu wu gb cb C.size tb C) := hide ⟨rfl, hcb, hrb, Only.refl _ _⟩
                      obtain ⟨n1, hn1⟩ : ∃ n1, n1 = C.size := ⟨_, rfl⟩
                      rw [← hn1] at SD hcb hCj ⊢
                      have HN1 := hide hn1
                      clear hrb hn1 HQ hcm hltj hj hz0
                      go_wp2_with fail
                      refine (sort8 wu gb cb n1 cb tb C SD.out (by omega)).mono ?_
                      rintro e w8 ⟨C1, rfl, S8, P8, O8⟩
                      have HB8 := hide (HB.out.only SD.out.2.2.1 hgb S8.2.2.2)
                      have HS8 := hide S8
                      have HP8 := hide P8
                      have HO8 := hide O8
                      clear S8 P8 O8 HB
                      go_wp2_with fail
                      refine (compact9 w8 gb cb n1 cb tb C1 HS8.out.start HO8.out (by omega) hcb).mono ?_
                      rintro e w9 ⟨mb, C2, fb, rfl, hmb, hC2s, ho9, hr9, hf9, hst9, hme9⟩
                      have HB9 := hide (HB8.out.only HS8.out.2.2.1 hgb ho9)
                      have HM9 : Hid (∀ x, (∃ t, t < mb ∧ C2[t]! = x) ↔ Nb D I[i]! D.size x) := hide (fun x => by
                        rw [← hme9 x, ← HID.out, ← HN.out, ← HCm.out x, ← perm_mem HN1.out.symm HP8.out x, mem_iff, HP8.out.1, ← HN1.out])
                      have HR9 := hide hr9
                      have HF9 := hide hf9
                      have HST9 := hide hst9
                      clear ho9 hr9 hf9 hst9 hme9 HB8 HS8 HP8 HO8 SD hC2s HCm
                      go_wp2_with fail
                      go_loopw [126, 14, 21, 22, 23] (fun vx v14 _ _ _ wr => ∃ (r : Nat) (B' : Array Int), vx = .int .i64 r ∧ r ≤ mb ∧ B'.size = B.size + r ∧ Hid (Bd w7 wr g7 m' i O' v14 B') ∧ Hid (RowF wr gb 24 cb fb) ∧ Hid (∀ t, t < B.size → B'[t]! = B[t]!) ∧ Hid (∀ t, t < r → ∃ p : Nat, p < m' ∧ B'[B.size + t]! = (p : Int) ∧ I[p]! = C2[t]!)) (fun vx _ _ _ _ _ => mb - (intOf vx).toNat)
                      case atStart => exact ⟨0, B, rfl, Nat.zero_le _, by omega, HB9, HR9, hide (fun t _ => rfl), hide (fun t ht => absurd ht (Nat.not_lt_zero _))⟩
                      case round =>
                        clear HB9 HR9
                        rename World => wv
                        obtain ⟨r, B', rfl, hr, hB's, HB, HR, HS0, HP0⟩ := hrel
                        by_cases hltr : r < mb
                        · obtain ⟨x, hx⟩ : ∃ x, x = C2[r]! := ⟨_, rfl⟩
                          have cx : wv.cell? ⟨gb, r, none⟩ = some (.int .u64 x) := by
                            rw [HR.out.cell (j := r) (by omega), HF9.out r hltr, hx]
                          obtain ⟨p, hp, hpx⟩ := nb_id (Nat.le_refl _) HmI.out ((HM9.out x).1 ⟨r, hltr, hx.symm⟩)
                          have HX := hide hx
                          have HPX := hide hpx
                          have AIv : Hid (Arr wv (some ⟨gd, 0, none⟩) m' .u64 (fun j => I[j]!)) := hide (AI7.out.but HB.out.but (fun b off e => by simp at e; simp; omega))
                          have hlo : Hid (∀ t, t < p → I[t]! < x) := hide (fun t ht => by rw [← hpx]; exact HsI.out t p ht hp)
                          have hhi : Hid (∀ t, p ≤ t → t < m' → x ≤ I[t]!) := hide (fun t h1 h2 => by
                            rw [← hpx]
                            rcases Nat.lt_or_ge p t with c | c
                            · exact Int.le_of_lt (HsI.out p t c h2)
                            · have : p = t := by omega
                              rw [this]; exact Int.le_refl _)
                          clear hx hpx
                          have r1 : (0 : Int) ≤ r := by omega
                          have r2 : (r : Int) < mb := by omega
                          have wp : IntKind.i32.wrap (p : Int) = (p : Int) := wrap32 (by omega) (by omega)
                          have D1 := hide (HB.out.new (But.alloc wv (Obj.cells #[.int .i32 (p : Int)] 21)))
                          have R1 := hide (HR.out.alloc (Obj.cells #[.int .i32 (p : Int)] 21))
                          have HNw := hide (one_new wv (.int .i32 (p : Int)) 21)
                          have hbs := hide (D1.out.but.size)
                          go_wp2_with fail
                          refine (bs10 wv (some ⟨gd, 0, none⟩) m' cd (fun j => I[j]!) x p AIv (by omega) hp hlo hhi HPX.out).mono ?_
                          rintro e wv' ⟨rfl, rfl⟩
                          go_wp2_with (at_builtin; refine wpList_grow rfl _ _ 71 rfl w7.heap.size 21 .i32 0 4 Yba.underlying71 info21 _ B' rfl D1.out.adj ⟨wv'.heap.size, 0, none⟩ 1 1 #[(p : Int)] rfl rfl ?hn ?hb ?h63 hbs.out ?hK)
                          case hn =>
                            intro t ht
                            rw [Addr.add_lit]
                            obtain rfl : t = 0 := by omega
                            exact HNw.out
                          case hb => omega
                          case h63 => unfold maxLen; omega
                          case hK =>
                            intro v' w' Q2 hgr _
                            have HB2 := hide (D1.out.push hgr Q2)
                            have HR2 := hide (D1.out.adj.keep hgr R1.out (by decide))
                            clear Q2 hgr HNw hbs cx HR HB D1 R1
                            go_wp2
                            go_roundw
                            case rel => exact ⟨r + 1, B' ++ #[(p : Int)], by go_num, by omega, by simp; omega, HB2, HR2, hide (fun t ht => by rw [app_lt B' _ (by omega)]; exact HS0.out t ht), hide (fun t ht => by
                              by_cases c : t = r
                              · subst c
                                exact ⟨p, hp, by rw [← hB's, app_at], by rw [HPX.out, HX.out]⟩
                              · obtain ⟨p', h1, h2, h3⟩ := HP0.out t (by omega)
                                exact ⟨p', h1, by rw [app_lt B' _ (by omega)]; exact h2, h3⟩)⟩
                            case measure => simp [intOf]; omega
                        · obtain rfl : mb = r := by omega
                          obtain ⟨a14, c14, hv14, _, _, _, _⟩ := HB.out.adj.arr
                          subst hv14
                          obtain ⟨sz, hsz⟩ : ∃ sz, sz = B'.size := ⟨_, rfl⟩
                          rw [← hsz] at HB ⊢
                          have HSZ := hide hsz
                          have hszb : sz ≤ (i + 1) * 2048 := by rw [Nat.add_mul]; omega
                          have wp : IntKind.i32.wrap (sz : Int) = (sz : Int) := wrap32b (by omega) (by omega)
                          have D1 := hide (HB.out.new (But.alloc wv (Obj.cells #[.int .i32 (sz : Int)] 21)))
                          have HNw := hide (one_new wv (.int .i32 (sz : Int)) 21)
                          have HB's := hide hB's
                          clear hsz hltr hr HR hB's HB
                          go_wp2_with (at_builtin; refine wpList_room rfl _ _ rfl g7 (i + 1) (m' + 1) wv.heap.size (sz : Int) _ rfl D1.out.off ?hb rfl HNw.out ?hK)
                          case hb => omega
                          case hK =>
                            intro w' hbw hrw
                            have D2 := hide (D1.out.offs sz hbw hrw)
                            have hseg := nb_seg (s0 := O' i) (A := fun t => B'[t]!) HsI.out HST9.out HM9.out (fun t ht => by
                              obtain ⟨p, h1, h2, h3⟩ := HP0.out t ht
                              exact ⟨p, h1, by rw [← HBs.out]; exact h2, h3⟩)
                            have hszO : sz = O' i + mb := by rw [HSZ.out, HB's.out, HBs.out]
                            have HC2 := hide (HCs.out.push (A' := fun t => B'[t]!) (e := sz) (by omega) (fun t ht => HS0.out t (by rw [HBs.out]; exact ht)) (by rw [hszO]; exact hseg.1) (by rw [hszO]; exact hseg.2))
                            clear hbw hrw hseg hszO HNw D1
                            go_wp2
                            go_roundw
                            case rel => exact ⟨i + 1, fun j => if j = i + 1 then sz else O' j, B', by go_num, rfl, by omega, D2, HC2, hide (by simp only [if_true]; exact HSZ.out.symm), by rw [← HSZ.out]; exact hszb⟩
                            case measure => simp [intOf]; omega
                · obtain rfl : m' = i := by omega
                  have hU := csr_unique HC.out HCs.out
                  have FZ : But [] w3 wz := F7.out.step HB.out.but (fun y hy => Or.inr (by have := hgG.out; simp at hy; omega))
                  have FW : Hid (But [] w wz) := hide (F3.out.new FZ)
                  obtain ⟨a14, c14, hv14, _, _, hA14, _⟩ := HB.out.adj.arr
                  subst hv14
                  have hsz : B.size = M := by rw [HBs.out, HM.out, (hU m' (Nat.le_refl _)).1]
                  rw [hsz] at hA14 ⊢
                  have hG := RowF.but HRG.out FZ (by simp)
                  have g0' : wz.cell? ⟨G, 0, none⟩ = some (.slice (some ⟨gi, 0, none⟩) m' m') := hG.cell (j := 0) (by omega)
                  have g1' : wz.cell? ⟨G, 1, none⟩ = some (.slice (some ⟨go, 0, none⟩) (m' + 1) (m' + 1)) := hG.cell (j := 1) (by omega)
                  have g2' : wz.cell? ⟨G, 2, none⟩ = some (.slice (some ⟨ga, 0, none⟩) M M) := hG.cell (j := 2) (by omega)
                  have A1 : Hid (Arr wz (some ⟨gi, 0, none⟩) m' .u64 (fun j => I[j]!)) := hide (HAI.out.but FZ (fun _ _ _ => by simp))
                  have A2 : Hid (Arr wz (some ⟨gd, 0, none⟩) m' .u64 (fun j => I[j]!)) := hide (AI7.out.but HB.out.but (fun b off e => by simp at e; simp; omega))
                  have A3 : Hid (Arr wz (some ⟨go, 0, none⟩) (m' + 1) .i32 (fun j => (O j : Int))) := hide (HAO.out.but FZ (fun _ _ _ => by simp))
                  have A4 : Hid (Arr wz (some ⟨g7, 0, none⟩) (m' + 1) .i32 (fun j => (O j : Int))) := hide (fun j hj => ⟨g7, 0, rfl, by
                    rw [Nat.zero_add, HB.out.off.cell (j := j) hj, if_pos (by omega), ← (hU j (by omega)).1]⟩)
                  have A5 : Hid (Arr wz (some ⟨ga, 0, none⟩) M .i32 A) := hide (HAA.out.but FZ (fun _ _ _ => by simp))
                  have A6 : Hid (Arr wz a14 M .i32 A) := hide (hA14.congr (fun j hj => (hU m' (Nat.le_refl _)).2 j (by rw [← HM.out]; exact hj)))
                  clear hG hU FZ hA14 hsz HB HCs HBs HC HRG HAI HAO HAA
                  go_wp2_with fail
                  refine (equal11 wz (some ⟨gi, 0, none⟩) (some ⟨gd, 0, none⟩) m' m' cd (fun j => I[j]!) A1 A2 (by omega)).mono ?_
                  rintro e wa ⟨rfl, qa, rfl⟩
                  have g1 : (wz.drewN qa).cell? ⟨G, 1, none⟩ = some (.slice (some ⟨go, 0, none⟩) (m' + 1) (m' + 1)) := g1'
                  have g2 : (wz.drewN qa).cell? ⟨G, 2, none⟩ = some (.slice (some ⟨ga, 0, none⟩) M M) := g2'
                  have C3 := hide (A3.out.drewN qa)
                  have C4 := hide (A4.out.drewN qa)
                  have C5 := hide (A5.out.drewN qa)
                  have C6 := hide (A6.out.drewN qa)
                  have FA : Hid (But [] w (wz.drewN qa)) := hide (FW.out.new (But.drewN _ _))
                  generalize hwa : wz.drewN qa = wa at g1 g2 C3 C4 C5 C6 FA ⊢
                  clear hwa A1 A2 A3 A4 A5 A6 g0' g1' g2' FW
                  go_wp2_with fail
                  refine (equal12 wa (some ⟨go, 0, none⟩) (some ⟨g7, 0, none⟩) (m' + 1) (m' + 1) (m' + 1) (fun j => (O j : Int)) C3 C4 (by omega)).mono ?_
                  rintro e wb ⟨rfl, qb, rfl⟩
                  have g3 : (wa.drewN qb).cell? ⟨G, 2, none⟩ = some (.slice (some ⟨ga, 0, none⟩) M M) := g2
                  have C7 := hide (C5.out.drewN qb)
                  have C8 := hide (C6.out.drewN qb)
                  have FB : Hid (But [] w (wa.drewN qb)) := hide (FA.out.new (But.drewN _ _))
                  generalize hwb : wa.drewN qb = wb at g3 C7 C8 FB ⊢
                  clear hwb g1 g2 C3 C4 C5 C6 FA
                  go_wp2_with fail
                  refine (equal12 wb (some ⟨ga, 0, none⟩) a14 M M c14 A C7 C8 (by omega)).mono ?_
                  rintro e wc ⟨rfl, qc, rfl⟩
                  have FC : Hid (But [] w (wb.drewN qc)) := hide (FB.out.new (But.drewN _ _))
                  generalize hwc : wb.drewN qc = wd at FC ⊢
                  clear hwc g3 C7 C8 FB
                  go_wp2
                  go_ret
                  exact ⟨rfl, FC.out.toBelow (Nat.le_refl _) (by simp)⟩

end Go.Proofs.Ybulkdtni.lawS6014CWhole
