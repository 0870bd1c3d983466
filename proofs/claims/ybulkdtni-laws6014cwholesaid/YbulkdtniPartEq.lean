/-
  slices.partitionEqualOrdered at uint64.
-/
import Derived.Test.YbulkdtniPart
namespace Go.Proofs.Ybulkdtni.lawS6014CWhole
open Go.RowKit Go.Proofs.Ybulkdtni.Own
open Go.Sort (swp ltInt PermIn)

/-- Where a partition stands: left of i all less than p, right of j none. -/
structure EInv (a b n : Nat) (d0 : Array Int) (p : Int) (i j : Nat) (d : Array Int) : Prop where
  perm : PermIn a b d0 d
  size : d.size = n
  bn : b ≤ n
  piv : d[a]! = p
  ai : a < i
  ij : i ≤ j + 1
  jb : j < b
  left : ∀ t, a < t → t < i → ltInt p d[t]! = false
  right : ∀ t, j < t → t < b → ltInt p d[t]! = true

variable {a b n : Nat} {d0 d : Array Int} {p : Int} {i j : Nat}

theorem EInv.up (h : EInv a b n d0 p i j d) (hij : i ≤ j) (hl : ltInt p d[i]! = false) : EInv a b n d0 p (i + 1) j d :=
  ⟨h.perm, h.size, h.bn, h.piv, by have := h.ai; omega, by omega, h.jb, fun t h1 h2 => by
    by_cases e : t = i
    · subst e; exact hl
    · exact h.left t h1 (by omega), h.right⟩

theorem EInv.down (h : EInv a b n d0 p i j d) (hij : i ≤ j) (hl : ltInt p d[j]! = true) : EInv a b n d0 p i (j - 1) d :=
  ⟨h.perm, h.size, h.bn, h.piv, h.ai, by have := h.ai; omega, by have := h.jb; omega, h.left, fun t h1 h2 => by
    by_cases e : t = j
    · subst e; exact hl
    · exact h.right t (by omega) h2⟩

theorem EInv.ne (hi : ltInt p d[i]! = true) (hj : ltInt p d[j]! = false) : i ≠ j := by
  rintro rfl
  rw [hi] at hj
  cases hj

theorem EInv.swap (h : EInv a b n d0 p i j d) (hij : i ≤ j) (hi : ltInt p d[i]! = true) (hj : ltInt p d[j]! = false) : EInv a b n d0 p (i + 1) (j - 1) (swp d i j) := by
  have hne := EInv.ne hi hj
  have := h.ai
  have := h.jb
  have := h.bn
  have hs := h.size
  have si : i < d.size := by omega
  have sj : j < d.size := by omega
  refine ⟨Sort.permIn_trans _ _ _ _ _ h.perm (Sort.swp_permIn d a b i j (by omega) (by omega) (by omega) (by omega) (by omega)), by rw [Sort.size_swp]; exact hs, h.bn, ?_, by omega, by omega, by omega, ?_, ?_⟩
  · rw [swp_off si sj (by omega) (by omega)]; exact h.piv
  · intro t h1 h2
    by_cases e : t = i
    · subst e; rw [(swp_at si sj).1]; exact hj
    · rw [swp_off si sj e (by omega)]; exact h.left t h1 (by omega)
  · intro t h1 h2
    by_cases e : t = j
    · subst e; rw [(swp_at si sj).2]; exact hi
    · rw [swp_off si sj (by omega) e]; exact h.right t (by omega) h2


/-- What it leaves: none up to m is greater than p; all from m on are. -/
structure PartedEq (a b : Nat) (d0 : Array Int) (p : Int) (m : Nat) (d : Array Int) : Prop where
  am : a < m
  mb : m ≤ b
  perm : PermIn a b d0 d
  left : ∀ t, a ≤ t → t < m → ltInt p d[t]! = false
  right : ∀ t, m ≤ t → t < b → ltInt p d[t]! = true

theorem EInv.done (h : EInv a b n d0 p i j d) (hij : j < i) : PartedEq a b d0 p i d := by
  have := h.ai
  have := h.ij
  have := h.jb
  refine ⟨h.ai, by omega, h.perm, ?_, fun t h1 h2 => h.right t (by omega) h2⟩
  intro t h1 h2
  by_cases e : t = a
  · subst e; rw [h.piv]; simp [ltInt]
  · exact h.left t (by omega) h2

set_option maxRecDepth 100000 in
set_option maxHeartbeats 8000000 in
theorem partEq36 (w : World) (g cap n c a b pv : Nat) (tl : Nat → Value) (d : Array Int) (h0 : St w w g cap n tl d) (hap : a ≤ pv) (hpb : pv < b) (hb : b ≤ n) (hn : n ≤ 1048576) :
    Calls Yba.prog 36 #[.slice (some ⟨g, 0, none⟩) n c, .int .i64 a, .int .i64 b, .int .i64 pv] w fun e w' => ∃ (m : Nat) (d' : Array Int), e = .returned (.int .i64 m) ∧ St w w' g cap n tl d' ∧ PartedEq a b d d[pv]! m d' := by
  have H0 := hide h0
  obtain ⟨x, hx⟩ : ∃ x, x = d[a]! := ⟨_, rfl⟩
  obtain ⟨p, hp⟩ : ∃ y, y = d[pv]! := ⟨_, rfl⟩
  have HX := hide hx
  have HP := hide hp
  have c0 : w.cell? ⟨g, a, none⟩ = some (.int .u64 x) := by rw [hx]; exact H0.out.cell (by omega)
  have c1 : w.cell? ⟨g, pv, none⟩ = some (.int .u64 p) := by rw [hp]; exact H0.out.cell (by omega)
  have f0 := H0.out.frozen a
  have f1 := H0.out.frozen pv
  obtain ⟨zz, cz⟩ := cell?_setCell_some (p := ⟨g, a, none⟩) (x := .int .u64 p) c1
  clear hx hp h0
  have q6 : (a : Int) < n := by omega
  have q7 : (pv : Int) < n := by omega
  go_enter Yba.func36, Yba.ntmps36
  go_wp2_with fail
  go_region
  all_goals go_wp2_with fail
  have zS : Hid (St w ((w.setCell ⟨g, a, none⟩ (.int .u64 p)).setCell ⟨g, pv, none⟩ (.int .u64 x)).drew g cap n tl (swp d a pv)) := hide (H0.out.swap (by omega) (by omega) HP.out HX.out).drew
  have zP : Hid (EInv a b n d p (a + 1) (b - 1) (swp d a pv)) := hide (by
    have hs := H0.out.1
    have sa : a < d.size := by omega
    have sp : pv < d.size := by omega
    exact ⟨Sort.swp_permIn d a b a pv (by omega) (by omega) hap hpb (by omega), by rw [Sort.size_swp]; exact hs, hb, by rw [(swp_at sa sp).1, ← HP.out], by omega, by omega, by omega, fun t h1 h2 => by omega, fun t h1 h2 => by omega⟩)
  generalize hwz : ((w.setCell ⟨g, a, none⟩ (.int .u64 p)).setCell ⟨g, pv, none⟩ (.int .u64 x)).drew = wz at zS ⊢
  generalize swp d a pv = D0 at zS zP
  clear c0 c1 f0 f1 cz hwz HX
  have eb : (b : Int) - 1 = ((b - 1 : Nat) : Int) := by omega
  rw [eb]
  clear eb
  generalize hB1 : b - 1 = B1 at zP ⊢
  have hB2 : B1 + 1 = b := by omega
  clear hB1
  go_loopw [9, 10] (fun vi vj wr => ∃ (i j : Nat) (D : Array Int), vi = .int .i64 i ∧ vj = .int .i64 j ∧ Hid (St w wr g cap n tl D) ∧ Hid (EInv a b n d p i j D)) (fun vi vj _ => ((intOf vj) + 1 - (intOf vi)).toNat)
  case atStart => exact ⟨(a + 1), B1, D0, by go_num, rfl, zS, zP⟩
  case round =>
    clear zS zP
    obtain ⟨i0, j0, D9, rfl, rfl, yS, yP⟩ := hrel
    obtain ⟨y1, y2, y3⟩ : a < i0 ∧ i0 ≤ j0 + 1 ∧ j0 < b := ⟨yP.out.ai, yP.out.ij, yP.out.jb⟩
    go_wp2_with fail
    go_loopw [9] (fun vi wr => ∃ i : Nat, vi = .int .i64 i ∧ i0 ≤ i ∧ Hid (St w wr g cap n tl D9) ∧ Hid (EInv a b n d p i j0 D9)) (fun vi _ => j0 + 1 - (intOf vi).toNat)
    case atStart => exact ⟨i0, rfl, Nat.le_refl _, yS, yP⟩
    case round =>
      clear yS yP
      obtain ⟨i1, rfl, gi1, hS2, hP3⟩ := hrel
      obtain ⟨b1, b2, b3, b4⟩ : a < i1 ∧ i1 ≤ j0 + 1 ∧ j0 < b ∧ D9[a]! = p := ⟨hP3.out.ai, hP3.out.ij, hP3.out.jb, hP3.out.piv⟩
      have B4 := hide b4
      clear b4
      by_cases hle : i1 ≤ j0
      · obtain ⟨x, hx⟩ : ∃ x, x = D9[i1]! := ⟨_, rfl⟩
        have HX := hide hx
        have c1 : wr.cell? ⟨g, i1, none⟩ = some (.int .u64 x) := by rw [hx]; exact hS2.out.cell (by omega)
        have c0 : wr.cell? ⟨g, a, none⟩ = some (.int .u64 p) := by rw [← B4.out]; exact hS2.out.cell (by omega)
        clear hx
        have q1 : decide ((i1 : Int) ≤ (j0 : Int)) = true := decide_eq_true (by omega)
        have q2 : (i1 : Int) < n := by omega
        have q3 : (a : Int) < n := by omega
        go_wp2
        go_quiet ((go_at_call 22; refine Calls.quiet_of_same (less22 _ _ _)))
        have tS := hide (hS2.out.drewN nq)
        generalize hwq : wr.drewN nq = wq at tS ⊢
        clear c1 c0 hwq hS2
        rcases hl : ltInt p x with _ | _
        · go_wp2
          go_roundw
          case rel => exact ⟨i1 + 1, by go_num, by omega, tS, hide (hP3.out.up hle (by rw [← HX.out]; exact hl))⟩
          case measure => simp [intOf]; omega
        · have nli1 : Hid (ltInt p D9[i1]! = true) := hide (by rw [← HX.out]; exact hl)
          clear HX hl
          go_wp2_with fail
          go_loopw [10] (fun vj wr => ∃ j : Nat, vj = .int .i64 j ∧ j ≤ j0 ∧ Hid (St w wr g cap n tl D9) ∧ Hid (EInv a b n d p i1 j D9)) (fun vj _ => (intOf vj).toNat)
          case atStart => exact ⟨j0, rfl, Nat.le_refl _, tS, hP3⟩
          case round =>
            clear tS hP3
            obtain ⟨j4, rfl, gj4, hS5, hP6⟩ := hrel
            obtain ⟨e1, e2, e3, e4⟩ : a < i1 ∧ i1 ≤ j4 + 1 ∧ j4 < b ∧ D9[a]! = p := ⟨hP6.out.ai, hP6.out.ij, hP6.out.jb, hP6.out.piv⟩
            have E4 := hide e4
            clear e4
            by_cases hle2 : i1 ≤ j4
            · obtain ⟨x, hx⟩ : ∃ x, x = D9[j4]! := ⟨_, rfl⟩
              have HX := hide hx
              have c1 : wr.cell? ⟨g, j4, none⟩ = some (.int .u64 x) := by rw [hx]; exact hS5.out.cell (by omega)
              have c0 : wr.cell? ⟨g, a, none⟩ = some (.int .u64 p) := by rw [← E4.out]; exact hS5.out.cell (by omega)
              clear hx
              have q1 : decide ((i1 : Int) ≤ (j4 : Int)) = true := decide_eq_true (by omega)
              have q2 : (j4 : Int) < n := by omega
              have q3 : (a : Int) < n := by omega
              go_wp2
              go_quiet ((go_at_call 22; refine Calls.quiet_of_same (less22 _ _ _)))
              have uS := hide (hS5.out.drewN nq)
              generalize hwq : wr.drewN nq = wq at uS ⊢
              clear c1 c0 hwq hS5
              rcases hl : ltInt p x with _ | _
              · have ylj4 : Hid (ltInt p D9[j4]! = false) := hide (by rw [← HX.out]; exact hl)
                clear HX hl
                have q4 : decide ((j4 : Int) < (i1 : Int)) = false := decide_eq_false (by omega)
                have hne := EInv.ne nli1.out ylj4.out
                obtain ⟨x, hx⟩ : ∃ x, x = D9[i1]! := ⟨_, rfl⟩
                obtain ⟨y, hy⟩ : ∃ y, y = D9[j4]! := ⟨_, rfl⟩
                have HX := hide hx
                have HY := hide hy
                have c0 : wq.cell? ⟨g, i1, none⟩ = some (.int .u64 x) := by rw [hx]; exact uS.out.cell (by omega)
                have c1 : wq.cell? ⟨g, j4, none⟩ = some (.int .u64 y) := by rw [hy]; exact uS.out.cell (by omega)
                have f0 := uS.out.frozen i1
                have f1 := uS.out.frozen j4
                obtain ⟨zz, cz⟩ := cell?_setCell_some (p := ⟨g, i1, none⟩) (x := .int .u64 y) c1
                clear hx hy
                have q6 : (i1 : Int) < n := by omega
                have q7 : (j4 : Int) < n := by omega
                go_wp2_with fail
                go_region
                all_goals go_wp2_with fail
                have zS : Hid (St w ((wq.setCell ⟨g, i1, none⟩ (.int .u64 y)).setCell ⟨g, j4, none⟩ (.int .u64 x)).drew g cap n tl (swp D9 i1 j4)) := hide (uS.out.swap (by omega) (by omega) HY.out HX.out).drew
                have zP := hide (hP6.out.swap hle2 nli1.out ylj4.out)
                generalize hwz : ((wq.setCell ⟨g, i1, none⟩ (.int .u64 y)).setCell ⟨g, j4, none⟩ (.int .u64 x)).drew = wz at zS ⊢
                generalize swp D9 i1 j4 = D7 at zS zP
                clear c0 c1 f0 f1 cz hwz uS hP6 nli1 ylj4 HX HY
                go_roundw
                case rel => exact ⟨(i1 + 1), (j4 - 1), D7, by go_num, by congr 1; omega, zS, zP⟩
                case measure => simp [intOf]; omega
              · go_wp2
                go_roundw
                case rel => exact ⟨j4 - 1, by congr 1; omega, by omega, uS, hide (hP6.out.down hle2 (by rw [← HX.out]; exact hl))⟩
                case measure => simp [intOf]; omega
            · have q1 : decide ((i1 : Int) ≤ (j4 : Int)) = false := decide_eq_false (by omega)
              go_wp2
              go_quiet (fail)
              have uS := hide (hS5.out.drewN nq)
              generalize hwq : wr.drewN nq = wq at uS ⊢
              clear hwq hS5
              have q4 : decide ((j4 : Int) < (i1 : Int)) = true := decide_eq_true (by omega)
              go_wp2
              go_ret
              exact ⟨i1, _, rfl, uS.out, by rw [← HP.out]; exact hP6.out.done (by omega)⟩
      · have q1 : decide ((i1 : Int) ≤ (j0 : Int)) = false := decide_eq_false (by omega)
        go_wp2
        go_quiet (fail)
        have tS := hide (hS2.out.drewN nq)
        generalize hwq : wr.drewN nq = wq at tS ⊢
        clear hwq hS2
        go_wp2_with fail
        go_loopw [10] (fun vj wr => ∃ j : Nat, vj = .int .i64 j ∧ j ≤ j0 ∧ Hid (St w wr g cap n tl D9) ∧ Hid (EInv a b n d p i1 j D9)) (fun vj _ => (intOf vj).toNat)
        case atStart => exact ⟨j0, rfl, Nat.le_refl _, tS, hP3⟩
        case round =>
          clear tS hP3
          obtain ⟨j8, rfl, gj8, hS9, hP10⟩ := hrel
          obtain ⟨e1, e2, e3, e4⟩ : a < i1 ∧ i1 ≤ j8 + 1 ∧ j8 < b ∧ D9[a]! = p := ⟨hP10.out.ai, hP10.out.ij, hP10.out.jb, hP10.out.piv⟩
          have E4 := hide e4
          clear e4
          by_cases hle2 : i1 ≤ j8
          · exact absurd hle2 (by omega)
          · have q1 : decide ((i1 : Int) ≤ (j8 : Int)) = false := decide_eq_false (by omega)
            go_wp2
            go_quiet (fail)
            have uS := hide (hS9.out.drewN nq)
            generalize hwq : wr.drewN nq = wq at uS ⊢
            clear hwq hS9
            have q4 : decide ((j8 : Int) < (i1 : Int)) = true := decide_eq_true (by omega)
            go_wp2
            go_ret
            exact ⟨i1, _, rfl, uS.out, by rw [← HP.out]; exact hP10.out.done (by omega)⟩

end Go.Proofs.Ybulkdtni.lawS6014CWhole
