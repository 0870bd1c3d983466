/-
  slices.partitionOrdered at uint64: what it answers and what the row holds behind it.
-/
import Derived.Test.YbulkdtniHeap
namespace Go.Proofs.Ybulkdtni.lawS6014CWhole
open Go.RowKit Go.Proofs.Ybulkdtni.Own
open Go.Sort (swp ltInt PermIn)

theorem swp_at {d : Array Int} {i j : Nat} (hi : i < d.size) (hj : j < d.size) : (swp d i j)[i]! = d[j]! ∧ (swp d i j)[j]! = d[i]! := by
  have h1 := Sort.swp_get d hi hj i
  have h2 := Sort.swp_get d hi hj j
  refine ⟨?_, ?_⟩
  · rw [h1]; by_cases e : i = j <;> simp [e]
  · rw [h2]; by_cases e : j = i <;> simp [e]

theorem swp_off {d : Array Int} {i j : Nat} (hi : i < d.size) (hj : j < d.size) {k : Nat} (h1 : k ≠ i) (h2 : k ≠ j) : (swp d i j)[k]! = d[k]! := by
  rw [Sort.swp_get d hi hj k]
  simp [h1, h2]

/-- Where a partition stands: left of i all less than p, right of j none. -/
structure PInv (a b n : Nat) (d0 : Array Int) (p : Int) (i j : Nat) (d : Array Int) : Prop where
  perm : PermIn a b d0 d
  size : d.size = n
  bn : b ≤ n
  piv : d[a]! = p
  ai : a < i
  ij : i ≤ j + 1
  jb : j < b
  left : ∀ t, a < t → t < i → ltInt d[t]! p = true
  right : ∀ t, j < t → t < b → ltInt d[t]! p = false

variable {a b n : Nat} {d0 d : Array Int} {p : Int} {i j : Nat}

theorem PInv.up (h : PInv a b n d0 p i j d) (hij : i ≤ j) (hl : ltInt d[i]! p = true) : PInv a b n d0 p (i + 1) j d :=
  ⟨h.perm, h.size, h.bn, h.piv, by have := h.ai; omega, by omega, h.jb, fun t h1 h2 => by
    by_cases e : t = i
    · subst e; exact hl
    · exact h.left t h1 (by omega), h.right⟩

theorem PInv.down (h : PInv a b n d0 p i j d) (hij : i ≤ j) (hl : ltInt d[j]! p = false) : PInv a b n d0 p i (j - 1) d :=
  ⟨h.perm, h.size, h.bn, h.piv, h.ai, by have := h.ai; omega, by have := h.jb; omega, h.left, fun t h1 h2 => by
    by_cases e : t = j
    · subst e; exact hl
    · exact h.right t (by omega) h2⟩

theorem PInv.ne (hi : ltInt d[i]! p = false) (hj : ltInt d[j]! p = true) : i ≠ j := by
  rintro rfl
  rw [hi] at hj
  cases hj

theorem PInv.swap (h : PInv a b n d0 p i j d) (hij : i ≤ j) (hi : ltInt d[i]! p = false) (hj : ltInt d[j]! p = true) : PInv a b n d0 p (i + 1) (j - 1) (swp d i j) := by
  have hne := PInv.ne hi hj
  have := h.ai
  have := h.jb
  have := h.bn
  have hs := h.size
  have si : i < d.size := by omega
  have sj : j < d.size := by omega
  refine ⟨Sort.permIn_trans _ _ _ _ _ h.perm (Sort.swp_permIn d a b i j (by omega) (by omega) (by omega) (by omega) (by omega)), by rw [Sort.size_swp]; exact hs, h.bn, ?_, by omega, by omega, by omega, ?_, ?_⟩
  · rw [swp_off si sj (by omega) (by omega)]; exact h.piv
  · intro t h1 h2
    by_cases e : t = i
    · subst e; rw [(swp_at si sj).1]; exact hj
    · rw [swp_off si sj e (by omega)]; exact h.left t h1 (by omega)
  · intro t h1 h2
    by_cases e : t = j
    · subst e; rw [(swp_at si sj).2]; exact hi
    · rw [swp_off si sj (by omega) e]; exact h.right t (by omega) h2

/-- What a partition leaves. -/
structure Parted (a b : Nat) (d0 : Array Int) (m : Nat) (d : Array Int) : Prop where
  am : a ≤ m
  mb : m < b
  perm : PermIn a b d0 d
  left : ∀ t, a ≤ t → t < m → ltInt d[t]! d[m]! = true
  right : ∀ t, m < t → t < b → ltInt d[t]! d[m]! = false

theorem PInv.done (h : PInv a b n d0 p i j d) (hij : j < i) : Parted a b d0 j (swp d j a) := by
  have := h.ai
  have := h.ij
  have := h.jb
  have := h.bn
  have hs := h.size
  have sj : j < d.size := by omega
  have sa : a < d.size := by omega
  have hm : (swp d j a)[j]! = p := by rw [(swp_at sj sa).1]; exact h.piv
  refine ⟨by omega, h.jb, Sort.permIn_trans _ _ _ _ _ h.perm (Sort.swp_permIn d a b j a (by omega) (by omega) (by omega) (by omega) (by omega)), ?_, ?_⟩
  · intro t h1 h2
    rw [hm]
    by_cases e : t = a
    · subst e; rw [(swp_at sj sa).2]; exact h.left j (by omega) (by omega)
    · rw [swp_off sj sa (by omega) e]; exact h.left t (by omega) (by omega)
  · intro t h1 h2
    rw [hm, swp_off sj sa (by omega) (by omega)]
    exact h.right t h1 h2

set_option maxRecDepth 100000 in
set_option maxHeartbeats 8000000 in
theorem part37 (w : World) (g cap n c a b pv : Nat) (tl : Nat → Value) (d : Array Int) (h0 : St w w g cap n tl d) (hap : a ≤ pv) (hpb : pv < b) (hb : b ≤ n) (hn : n ≤ 1048576) :
    Calls Yba.prog 37 #[.slice (some ⟨g, 0, none⟩) n c, .int .i64 a, .int .i64 b, .int .i64 pv] w fun e w' => ∃ (m : Nat) (fl : Bool) (d' : Array Int), e = .returned (.tuple #[.int .i64 m, .bool fl]) ∧ St w w' g cap n tl d' ∧ Parted a b d m d' := by
  have H0 := hide h0
  obtain ⟨x, hx⟩ : ∃ x, x = d[a]! := ⟨_, rfl⟩
  obtain ⟨p, hp⟩ : ∃ y, y = d[pv]! := ⟨_, rfl⟩
  have HX := hide hx
  have HP := hide hp
  have c0 : w.cell? ⟨g, a, none⟩ = some (.int .u64 x) := by rw [hx]; exact H0.out.cell (by omega)
  have c1 : w.cell? ⟨g, pv, none⟩ = some (.int .u64 p) := by rw [hp]; exact H0.out.cell (by omega)
  have f0 := H0.out.frozen a
  have f1 := H0.out.frozen pv
  obtain ⟨zz, cz⟩ := cell?_setCell_some (p := ⟨g, a, none⟩) (x := .int .u64 p) c1
  clear hx hp h0
  have q6 : (a : Int) < n := by omega
  have q7 : (pv : Int) < n := by omega
  go_enter Yba.func37, Yba.ntmps37
  go_wp2_with fail
  go_region
  all_goals go_wp2_with fail
  have zS : Hid (St w ((w.setCell ⟨g, a, none⟩ (.int .u64 p)).setCell ⟨g, pv, none⟩ (.int .u64 x)).drew g cap n tl (swp d a pv)) := hide (H0.out.swap (by omega) (by omega) HP.out HX.out).drew
  have zP : Hid (PInv a b n d p (a + 1) (b - 1) (swp d a pv)) := hide (by
    have hs := H0.out.1
    have sa : a < d.size := by omega
    have sp : pv < d.size := by omega
    exact ⟨Sort.swp_permIn d a b a pv (by omega) (by omega) hap hpb (by omega), by rw [Sort.size_swp]; exact hs, hb, by rw [(swp_at sa sp).1, ← HP.out], by omega, by omega, by omega, fun t h1 h2 => by omega, fun t h1 h2 => by omega⟩)
  generalize hwz : ((w.setCell ⟨g, a, none⟩ (.int .u64 p)).setCell ⟨g, pv, none⟩ (.int .u64 x)).drew = wz at zS ⊢
  generalize swp d a pv = D0 at zS zP
  clear c0 c1 f0 f1 cz hwz HX HP
  have eb : (b : Int) - 1 = ((b - 1 : Nat) : Int) := by omega
  rw [eb]
  clear eb
  generalize hB1 : b - 1 = B1 at zP ⊢
  have hB2 : B1 + 1 = b := by omega
  clear hB1
  go_loopw [10] (fun vi wr => ∃ i : Nat, vi = .int .i64 i ∧ (a + 1) ≤ i ∧ Hid (St w wr g cap n tl D0) ∧ Hid (PInv a b n d p i B1 D0)) (fun vi _ => B1 + 1 - (intOf vi).toNat)
  case atStart => exact ⟨(a + 1), by go_num, Nat.le_refl _, zS, zP⟩
  case round =>
    clear zS zP
    obtain ⟨i1, rfl, gi1, hS2, hP3⟩ := hrel
    obtain ⟨b1, b2, b3, b4⟩ : a < i1 ∧ i1 ≤ B1 + 1 ∧ B1 < b ∧ D0[a]! = p := ⟨hP3.out.ai, hP3.out.ij, hP3.out.jb, hP3.out.piv⟩
    have B4 := hide b4
    clear b4
    by_cases hle : i1 ≤ B1
    · obtain ⟨x, hx⟩ : ∃ x, x = D0[i1]! := ⟨_, rfl⟩
      have HX := hide hx
      have c1 : wr.cell? ⟨g, i1, none⟩ = some (.int .u64 x) := by rw [hx]; exact hS2.out.cell (by omega)
      have c0 : wr.cell? ⟨g, a, none⟩ = some (.int .u64 p) := by rw [← B4.out]; exact hS2.out.cell (by omega)
      clear hx
      have q1 : decide ((i1 : Int) ≤ (B1 : Int)) = true := decide_eq_true (by omega)
      have q2 : (i1 : Int) < n := by omega
      have q3 : (a : Int) < n := by omega
      go_wp2
      go_quiet ((go_at_call 22; refine Calls.quiet_of_same (less22 _ _ _)))
      have tS := hide (hS2.out.drewN nq)
      generalize hwq : wr.drewN nq = wq at tS ⊢
      clear c1 c0 hwq hS2
      rcases hl : ltInt x p with _ | _
      · have nli1 : Hid (ltInt D0[i1]! p = false) := hide (by rw [← HX.out]; exact hl)
        clear HX hl
        go_wp2_with fail
        go_loopw [11] (fun vj wr => ∃ j : Nat, vj = .int .i64 j ∧ j ≤ B1 ∧ Hid (St w wr g cap n tl D0) ∧ Hid (PInv a b n d p i1 j D0)) (fun vj _ => (intOf vj).toNat)
        case atStart => exact ⟨B1, rfl, Nat.le_refl _, tS, hP3⟩
        case round =>
          clear tS hP3
          obtain ⟨j4, rfl, gj4, hS5, hP6⟩ := hrel
          obtain ⟨e1, e2, e3, e4⟩ : a < i1 ∧ i1 ≤ j4 + 1 ∧ j4 < b ∧ D0[a]! = p := ⟨hP6.out.ai, hP6.out.ij, hP6.out.jb, hP6.out.piv⟩
          have E4 := hide e4
          clear e4
          by_cases hle2 : i1 ≤ j4
          · obtain ⟨x, hx⟩ : ∃ x, x = D0[j4]! := ⟨_, rfl⟩
            have HX := hide hx
            have c1 : wr.cell? ⟨g, j4, none⟩ = some (.int .u64 x) := by rw [hx]; exact hS5.out.cell (by omega)
            have c0 : wr.cell? ⟨g, a, none⟩ = some (.int .u64 p) := by rw [← E4.out]; exact hS5.out.cell (by omega)
            clear hx
            have q1 : decide ((i1 : Int) ≤ (j4 : Int)) = true := decide_eq_true (by omega)
            have q2 : (j4 : Int) < n := by omega
            have q3 : (a : Int) < n := by omega
            go_wp2
            go_quiet ((go_at_call 22; refine Calls.quiet_of_same (less22 _ _ _)))
            have uS := hide (hS5.out.drewN nq)
            generalize hwq : wr.drewN nq = wq at uS ⊢
            clear c1 c0 hwq hS5
            rcases hl : ltInt x p with _ | _
            · go_wp2
              go_roundw
              case rel => exact ⟨j4 - 1, by congr 1; omega, by omega, uS, hide (hP6.out.down hle2 (by rw [← HX.out]; exact hl))⟩
              case measure => simp [intOf]; omega
            · have ylj4 : Hid (ltInt D0[j4]! p = true) := hide (by rw [← HX.out]; exact hl)
              clear HX hl
              have q4 : decide ((j4 : Int) < (i1 : Int)) = false := decide_eq_false (by omega)
              have hne := PInv.ne nli1.out ylj4.out
              obtain ⟨x, hx⟩ : ∃ x, x = D0[i1]! := ⟨_, rfl⟩
              obtain ⟨y, hy⟩ : ∃ y, y = D0[j4]! := ⟨_, rfl⟩
              have HX := hide hx
              have HY := hide hy
              have c0 : wq.cell? ⟨g, i1, none⟩ = some (.int .u64 x) := by rw [hx]; exact uS.out.cell (by omega)
              have c1 : wq.cell? ⟨g, j4, none⟩ = some (.int .u64 y) := by rw [hy]; exact uS.out.cell (by omega)
              have f0 := uS.out.frozen i1
              have f1 := uS.out.frozen j4
              obtain ⟨zz, cz⟩ := cell?_setCell_some (p := ⟨g, i1, none⟩) (x := .int .u64 y) c1
              clear hx hy
              have q6 : (i1 : Int) < n := by omega
              have q7 : (j4 : Int) < n := by omega
              go_wp2_with fail
              go_region
              all_goals go_wp2_with fail
              have zS : Hid (St w ((wq.setCell ⟨g, i1, none⟩ (.int .u64 y)).setCell ⟨g, j4, none⟩ (.int .u64 x)).drew g cap n tl (swp D0 i1 j4)) := hide (uS.out.swap (by omega) (by omega) HY.out HX.out).drew
              have zP := hide (hP6.out.swap hle2 nli1.out ylj4.out)
              generalize hwz : ((wq.setCell ⟨g, i1, none⟩ (.int .u64 y)).setCell ⟨g, j4, none⟩ (.int .u64 x)).drew = wz at zS ⊢
              generalize swp D0 i1 j4 = D7 at zS zP
              clear c0 c1 f0 f1 cz hwz uS hP6 nli1 ylj4 HX HY
              go_loopw [10, 11] (fun vi vj wr => ∃ (i j : Nat) (D : Array Int), vi = .int .i64 i ∧ vj = .int .i64 j ∧ Hid (St w wr g cap n tl D) ∧ Hid (PInv a b n d p i j D)) (fun vi vj _ => ((intOf vj) + 1 - (intOf vi)).toNat)
              case atStart => exact ⟨(i1 + 1), (j4 - 1), D7, by go_num, by congr 1; omega, zS, zP⟩
              case round =>
                clear zS zP
                obtain ⟨i0, j0, D9, rfl, rfl, yS, yP⟩ := hrel
                obtain ⟨y1, y2, y3⟩ : a < i0 ∧ i0 ≤ j0 + 1 ∧ j0 < b := ⟨yP.out.ai, yP.out.ij, yP.out.jb⟩
                go_wp2_with fail
                go_loopw [10] (fun vi wr => ∃ i : Nat, vi = .int .i64 i ∧ i0 ≤ i ∧ Hid (St w wr g cap n tl D9) ∧ Hid (PInv a b n d p i j0 D9)) (fun vi _ => j0 + 1 - (intOf vi).toNat)
                case atStart => exact ⟨i0, rfl, Nat.le_refl _, yS, yP⟩
                case round =>
                  clear yS yP
                  obtain ⟨i8, rfl, gi8, hS9, hP10⟩ := hrel
                  obtain ⟨b1, b2, b3, b4⟩ : a < i8 ∧ i8 ≤ j0 + 1 ∧ j0 < b ∧ D9[a]! = p := ⟨hP10.out.ai, hP10.out.ij, hP10.out.jb, hP10.out.piv⟩
                  have B4 := hide b4
                  clear b4
                  by_cases hle : i8 ≤ j0
                  · obtain ⟨x, hx⟩ : ∃ x, x = D9[i8]! := ⟨_, rfl⟩
                    have HX := hide hx
                    have c1 : wr.cell? ⟨g, i8, none⟩ = some (.int .u64 x) := by rw [hx]; exact hS9.out.cell (by omega)
                    have c0 : wr.cell? ⟨g, a, none⟩ = some (.int .u64 p) := by rw [← B4.out]; exact hS9.out.cell (by omega)
                    clear hx
                    have q1 : decide ((i8 : Int) ≤ (j0 : Int)) = true := decide_eq_true (by omega)
                    have q2 : (i8 : Int) < n := by omega
                    have q3 : (a : Int) < n := by omega
                    go_wp2
                    go_quiet ((go_at_call 22; refine Calls.quiet_of_same (less22 _ _ _)))
                    have tS := hide (hS9.out.drewN nq)
                    generalize hwq : wr.drewN nq = wq at tS ⊢
                    clear c1 c0 hwq hS9
                    rcases hl : ltInt x p with _ | _
                    · have nli8 : Hid (ltInt D9[i8]! p = false) := hide (by rw [← HX.out]; exact hl)
                      clear HX hl
                      go_wp2_with fail
                      go_loopw [11] (fun vj wr => ∃ j : Nat, vj = .int .i64 j ∧ j ≤ j0 ∧ Hid (St w wr g cap n tl D9) ∧ Hid (PInv a b n d p i8 j D9)) (fun vj _ => (intOf vj).toNat)
                      case atStart => exact ⟨j0, rfl, Nat.le_refl _, tS, hP10⟩
                      case round =>
                        clear tS hP10
                        obtain ⟨j11, rfl, gj11, hS12, hP13⟩ := hrel
                        obtain ⟨e1, e2, e3, e4⟩ : a < i8 ∧ i8 ≤ j11 + 1 ∧ j11 < b ∧ D9[a]! = p := ⟨hP13.out.ai, hP13.out.ij, hP13.out.jb, hP13.out.piv⟩
                        have E4 := hide e4
                        clear e4
                        by_cases hle2 : i8 ≤ j11
                        · obtain ⟨x, hx⟩ : ∃ x, x = D9[j11]! := ⟨_, rfl⟩
                          have HX := hide hx
                          have c1 : wr.cell? ⟨g, j11, none⟩ = some (.int .u64 x) := by rw [hx]; exact hS12.out.cell (by omega)
                          have c0 : wr.cell? ⟨g, a, none⟩ = some (.int .u64 p) := by rw [← E4.out]; exact hS12.out.cell (by omega)
                          clear hx
                          have q1 : decide ((i8 : Int) ≤ (j11 : Int)) = true := decide_eq_true (by omega)
                          have q2 : (j11 : Int) < n := by omega
                          have q3 : (a : Int) < n := by omega
                          go_wp2
                          go_quiet ((go_at_call 22; refine Calls.quiet_of_same (less22 _ _ _)))
                          have uS := hide (hS12.out.drewN nq)
                          generalize hwq : wr.drewN nq = wq at uS ⊢
                          clear c1 c0 hwq hS12
                          rcases hl : ltInt x p with _ | _
                          · go_wp2
                            go_roundw
                            case rel => exact ⟨j11 - 1, by congr 1; omega, by omega, uS, hide (hP13.out.down hle2 (by rw [← HX.out]; exact hl))⟩
                            case measure => simp [intOf]; omega
                          · have ylj11 : Hid (ltInt D9[j11]! p = true) := hide (by rw [← HX.out]; exact hl)
                            clear HX hl
                            have q4 : decide ((j11 : Int) < (i8 : Int)) = false := decide_eq_false (by omega)
                            have hne := PInv.ne nli8.out ylj11.out
                            obtain ⟨x, hx⟩ : ∃ x, x = D9[i8]! := ⟨_, rfl⟩
                            obtain ⟨y, hy⟩ : ∃ y, y = D9[j11]! := ⟨_, rfl⟩
                            have HX := hide hx
                            have HY := hide hy
                            have c0 : wq.cell? ⟨g, i8, none⟩ = some (.int .u64 x) := by rw [hx]; exact uS.out.cell (by omega)
                            have c1 : wq.cell? ⟨g, j11, none⟩ = some (.int .u64 y) := by rw [hy]; exact uS.out.cell (by omega)
                            have f0 := uS.out.frozen i8
                            have f1 := uS.out.frozen j11
                            obtain ⟨zz, cz⟩ := cell?_setCell_some (p := ⟨g, i8, none⟩) (x := .int .u64 y) c1
                            clear hx hy
                            have q6 : (i8 : Int) < n := by omega
                            have q7 : (j11 : Int) < n := by omega
                            go_wp2_with fail
                            go_region
                            all_goals go_wp2_with fail
                            have zS : Hid (St w ((wq.setCell ⟨g, i8, none⟩ (.int .u64 y)).setCell ⟨g, j11, none⟩ (.int .u64 x)).drew g cap n tl (swp D9 i8 j11)) := hide (uS.out.swap (by omega) (by omega) HY.out HX.out).drew
                            have zP := hide (hP13.out.swap hle2 nli8.out ylj11.out)
                            generalize hwz : ((wq.setCell ⟨g, i8, none⟩ (.int .u64 y)).setCell ⟨g, j11, none⟩ (.int .u64 x)).drew = wz at zS ⊢
                            generalize swp D9 i8 j11 = D14 at zS zP
                            clear c0 c1 f0 f1 cz hwz uS hP13 nli8 ylj11 HX HY
                            go_roundw
                            case rel => exact ⟨(i8 + 1), (j11 - 1), D14, by go_num, by congr 1; omega, zS, zP⟩
                            case measure => simp [intOf]; omega
                        · have q1 : decide ((i8 : Int) ≤ (j11 : Int)) = false := decide_eq_false (by omega)
                          go_wp2
                          go_quiet (fail)
                          have uS := hide (hS12.out.drewN nq)
                          generalize hwq : wr.drewN nq = wq at uS ⊢
                          clear hwq hS12
                          have q4 : decide ((j11 : Int) < (i8 : Int)) = true := decide_eq_true (by omega)
                          obtain ⟨x, hx⟩ : ∃ x, x = D9[j11]! := ⟨_, rfl⟩
                          obtain ⟨y, hy⟩ : ∃ y, y = D9[a]! := ⟨_, rfl⟩
                          have HX := hide hx
                          have HY := hide hy
                          have c0 : wq.cell? ⟨g, j11, none⟩ = some (.int .u64 x) := by rw [hx]; exact uS.out.cell (by omega)
                          have c1 : wq.cell? ⟨g, a, none⟩ = some (.int .u64 y) := by rw [hy]; exact uS.out.cell (by omega)
                          have f0 := uS.out.frozen j11
                          have f1 := uS.out.frozen a
                          obtain ⟨zz, cz⟩ := cell?_setCell_some (p := ⟨g, j11, none⟩) (x := .int .u64 y) c1
                          clear hx hy
                          have q6 : (j11 : Int) < n := by omega
                          have q7 : (a : Int) < n := by omega
                          go_wp2_with fail
                          go_region
                          all_goals go_wp2
                          go_ret2
                          exact ⟨j11, false, _, rfl, (uS.out.swap (by omega) (by omega) HY.out HX.out).drew, hP13.out.done (by omega)⟩
                    · go_wp2
                      go_roundw
                      case rel => exact ⟨i8 + 1, by go_num, by omega, tS, hide (hP10.out.up hle (by rw [← HX.out]; exact hl))⟩
                      case measure => simp [intOf]; omega
                  · have q1 : decide ((i8 : Int) ≤ (j0 : Int)) = false := decide_eq_false (by omega)
                    go_wp2
                    go_quiet (fail)
                    have tS := hide (hS9.out.drewN nq)
                    generalize hwq : wr.drewN nq = wq at tS ⊢
                    clear hwq hS9
                    go_wp2_with fail
                    go_loopw [11] (fun vj wr => ∃ j : Nat, vj = .int .i64 j ∧ j ≤ j0 ∧ Hid (St w wr g cap n tl D9) ∧ Hid (PInv a b n d p i8 j D9)) (fun vj _ => (intOf vj).toNat)
                    case atStart => exact ⟨j0, rfl, Nat.le_refl _, tS, hP10⟩
                    case round =>
                      clear tS hP10
                      obtain ⟨j15, rfl, gj15, hS16, hP17⟩ := hrel
                      obtain ⟨e1, e2, e3, e4⟩ : a < i8 ∧ i8 ≤ j15 + 1 ∧ j15 < b ∧ D9[a]! = p := ⟨hP17.out.ai, hP17.out.ij, hP17.out.jb, hP17.out.piv⟩
                      have E4 := hide e4
                      clear e4
                      by_cases hle2 : i8 ≤ j15
                      · exact absurd hle2 (by omega)
                      · have q1 : decide ((i8 : Int) ≤ (j15 : Int)) = false := decide_eq_false (by omega)
                        go_wp2
                        go_quiet (fail)
                        have uS := hide (hS16.out.drewN nq)
                        generalize hwq : wr.drewN nq = wq at uS ⊢
                        clear hwq hS16
                        have q4 : decide ((j15 : Int) < (i8 : Int)) = true := decide_eq_true (by omega)
                        obtain ⟨x, hx⟩ : ∃ x, x = D9[j15]! := ⟨_, rfl⟩
                        obtain ⟨y, hy⟩ : ∃ y, y = D9[a]! := ⟨_, rfl⟩
                        have HX := hide hx
                        have HY := hide hy
                        have c0 : wq.cell? ⟨g, j15, none⟩ = some (.int .u64 x) := by rw [hx]; exact uS.out.cell (by omega)
                        have c1 : wq.cell? ⟨g, a, none⟩ = some (.int .u64 y) := by rw [hy]; exact uS.out.cell (by omega)
                        have f0 := uS.out.frozen j15
                        have f1 := uS.out.frozen a
                        obtain ⟨zz, cz⟩ := cell?_setCell_some (p := ⟨g, j15, none⟩) (x := .int .u64 y) c1
                        clear hx hy
                        have q6 : (j15 : Int) < n := by omega
                        have q7 : (a : Int) < n := by omega
                        go_wp2_with fail
                        go_region
                        all_goals go_wp2
                        go_ret2
                        exact ⟨j15, false, _, rfl, (uS.out.swap (by omega) (by omega) HY.out HX.out).drew, hP17.out.done (by omega)⟩
          · have q1 : decide ((i1 : Int) ≤ (j4 : Int)) = false := decide_eq_false (by omega)
            go_wp2
            go_quiet (fail)
            have uS := hide (hS5.out.drewN nq)
            generalize hwq : wr.drewN nq = wq at uS ⊢
            clear hwq hS5
            have q4 : decide ((j4 : Int) < (i1 : Int)) = true := decide_eq_true (by omega)
            obtain ⟨x, hx⟩ : ∃ x, x = D0[j4]! := ⟨_, rfl⟩
            obtain ⟨y, hy⟩ : ∃ y, y = D0[a]! := ⟨_, rfl⟩
            have HX := hide hx
            have HY := hide hy
            have c0 : wq.cell? ⟨g, j4, none⟩ = some (.int .u64 x) := by rw [hx]; exact uS.out.cell (by omega)
            have c1 : wq.cell? ⟨g, a, none⟩ = some (.int .u64 y) := by rw [hy]; exact uS.out.cell (by omega)
            have f0 := uS.out.frozen j4
            have f1 := uS.out.frozen a
            obtain ⟨zz, cz⟩ := cell?_setCell_some (p := ⟨g, j4, none⟩) (x := .int .u64 y) c1
            clear hx hy
            have q6 : (j4 : Int) < n := by omega
            have q7 : (a : Int) < n := by omega
            go_wp2_with fail
            go_region
            all_goals go_wp2
            go_ret2
            exact ⟨j4, true, _, rfl, (uS.out.swap (by omega) (by omega) HY.out HX.out).drew, hP6.out.done (by omega)⟩
      · go_wp2
        go_roundw
        case rel => exact ⟨i1 + 1, by go_num, by omega, tS, hide (hP3.out.up hle (by rw [← HX.out]; exact hl))⟩
        case measure => simp [intOf]; omega
    · have q1 : decide ((i1 : Int) ≤ (B1 : Int)) = false := decide_eq_false (by omega)
      go_wp2
      go_quiet (fail)
      have tS := hide (hS2.out.drewN nq)
      generalize hwq : wr.drewN nq = wq at tS ⊢
      clear hwq hS2
      go_wp2_with fail
      go_loopw [11] (fun vj wr => ∃ j : Nat, vj = .int .i64 j ∧ j ≤ B1 ∧ Hid (St w wr g cap n tl D0) ∧ Hid (PInv a b n d p i1 j D0)) (fun vj _ => (intOf vj).toNat)
      case atStart => exact ⟨B1, rfl, Nat.le_refl _, tS, hP3⟩
      case round =>
        clear tS hP3
        obtain ⟨j18, rfl, gj18, hS19, hP20⟩ := hrel
        obtain ⟨e1, e2, e3, e4⟩ : a < i1 ∧ i1 ≤ j18 + 1 ∧ j18 < b ∧ D0[a]! = p := ⟨hP20.out.ai, hP20.out.ij, hP20.out.jb, hP20.out.piv⟩
        have E4 := hide e4
        clear e4
        by_cases hle2 : i1 ≤ j18
        · exact absurd hle2 (by omega)
        · have q1 : decide ((i1 : Int) ≤ (j18 : Int)) = false := decide_eq_false (by omega)
          go_wp2
          go_quiet (fail)
          have uS := hide (hS19.out.drewN nq)
          generalize hwq : wr.drewN nq = wq at uS ⊢
          clear hwq hS19
          have q4 : decide ((j18 : Int) < (i1 : Int)) = true := decide_eq_true (by omega)
          obtain ⟨x, hx⟩ : ∃ x, x = D0[j18]! := ⟨_, rfl⟩
          obtain ⟨y, hy⟩ : ∃ y, y = D0[a]! := ⟨_, rfl⟩
          have HX := hide hx
          have HY := hide hy
          have c0 : wq.cell? ⟨g, j18, none⟩ = some (.int .u64 x) := by rw [hx]; exact uS.out.cell (by omega)
          have c1 : wq.cell? ⟨g, a, none⟩ = some (.int .u64 y) := by rw [hy]; exact uS.out.cell (by omega)
          have f0 := uS.out.frozen j18
          have f1 := uS.out.frozen a
          obtain ⟨zz, cz⟩ := cell?_setCell_some (p := ⟨g, j18, none⟩) (x := .int .u64 y) c1
          clear hx hy
          have q6 : (j18 : Int) < n := by omega
          have q7 : (a : Int) < n := by omega
          go_wp2_with fail
          go_region
          all_goals go_wp2
          go_ret2
          exact ⟨j18, true, _, rfl, (uS.out.swap (by omega) (by omega) HY.out HX.out).drew, hP20.out.done (by omega)⟩

end Go.Proofs.Ybulkdtni.lawS6014CWhole
