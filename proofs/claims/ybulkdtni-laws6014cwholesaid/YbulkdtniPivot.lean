/-
  slices.order2Ordered, medianOrdered, medianAdjacentOrdered, choosePivotOrdered at uint64: which indices they answer with.
-/
import Derived.Test.YbulkdtniPins
namespace Go.Proofs.Ybulkdtni.lawS6014CWhole
open Go.RowKit Go.Proofs.Ybulkdtni.Own
open Go.Sort (swp ltInt)

/-- The counter '*swaps': a block of its own. -/
def Cnt (w : World) (s : Nat) : Prop := ∃ k : Int, RowF w s 3 1 (fun _ => .int .i64 k)

/-- Nothing but block s turned, and it is still a counter. -/
def CntStep (s : Nat) (w w' : World) : Prop := Only s w w' ∧ Cnt w' s

set_option maxHeartbeats 1000000 in
theorem order68 (w : World) (g cap n c s a b : Nat) (tl : Nat → Value) (d : Array Int) (h0 : St w w g cap n tl d) (hs : Cnt w s) (ha : a < n) (hb : b < n) :
    Calls Yba.prog 68 #[.slice (some ⟨g, 0, none⟩) n c, .int .i64 a, .int .i64 b, .pointer (some ⟨s, 0, none⟩)] w fun e w' => ∃ x y : Nat, e = .returned (.tuple #[.int .i64 x, .int .i64 y]) ∧ ((x = a ∧ y = b) ∨ (x = b ∧ y = a)) ∧ CntStep s w w' := by
  have H0 := hide h0
  obtain ⟨k, hk⟩ := hs
  have HK := hide hk
  obtain ⟨x, hx⟩ : ∃ x, x = d[a]! := ⟨_, rfl⟩
  obtain ⟨y, hy⟩ : ∃ y, y = d[b]! := ⟨_, rfl⟩
  have c0 : w.cell? ⟨g, a, none⟩ = some (.int .u64 x) := by rw [hx]; exact H0.out.cell (by omega)
  have c1 : w.cell? ⟨g, b, none⟩ = some (.int .u64 y) := by rw [hy]; exact H0.out.cell (by omega)
  clear hx hy h0
  have q6 : (a : Int) < n := by omega
  have q7 : (b : Int) < n := by omega
  go_enter Yba.func68, Yba.ntmps68
  go_wp2_with fail
  go_quiet ((go_at_call 22; refine Calls.quiet_of_same (less22 _ _ _)))
  have hK2 : Hid (RowF (w.drewN nq) s 3 1 (fun _ => .int .i64 k)) := HK
  have hO : Hid (Only s w (w.drewN nq)) := hide ((Only.refl s w).drewN nq)
  have cs : (w.drewN nq).cell? ⟨s, 0, none⟩ = some (.int .i64 k) := HK.out.cell (j := 0) (by omega)
  have fs : (w.drewN nq).frozen? ⟨s, 0, none⟩ = false := HK.out.frozen 0
  generalize hwq : w.drewN nq = wq at hK2 hO cs fs ⊢
  clear hwq c0 c1 HK
  rcases hl : ltInt y x with _ | _
  · go_wp2
    go_ret2
    exact ⟨a, b, rfl, Or.inl ⟨rfl, rfl⟩, hO.out, k, hK2.out⟩
  · go_wp2
    go_ret2
    exact ⟨b, a, rfl, Or.inr ⟨rfl, rfl⟩, hO.out.setCell 0 _, _, hK2.out.store 0 _ (fun _ => rfl) (fun j hj hne => by omega)⟩

theorem St.aside {w w' : World} {g cap n : Nat} {tl : Nat → Value} {d : Array Int} {s : Nat} (h : St w w g cap n tl d) (ho : Only s w w') (hne : g ≠ s) : St w' w' g cap n tl d :=
  ⟨h.1, h.2.1, h.2.2.1.of_block (ho.2 g h.lt hne), Only.refl _ _⟩

set_option maxHeartbeats 1000000 in
theorem median62 (w : World) (g cap n cc s a b c : Nat) (tl : Nat → Value) (d : Array Int) (h0 : St w w g cap n tl d) (hs : Cnt w s) (hne : g ≠ s) (ha : a < n) (hb : b < n) (hc : c < n) :
    Calls Yba.prog 62 #[.slice (some ⟨g, 0, none⟩) n cc, .int .i64 a, .int .i64 b, .int .i64 c, .pointer (some ⟨s, 0, none⟩)] w fun e w' => ∃ m : Nat, e = .returned (.int .i64 m) ∧ (m = a ∨ m = b ∨ m = c) ∧ CntStep s w w' := by
  go_enter Yba.func62, Yba.ntmps62
  go_wp2_with fail
  refine (order68 w g cap n cc s a b tl d h0 hs ha hb).mono ?_
  rintro e w1 ⟨x1, y1, rfl, hxy, ho1, hk1⟩
  have h1 := h0.aside ho1 hne
  have x1n : x1 < n := by omega
  have y1n : y1 < n := by omega
  go_wp2_with fail
  refine (order68 w1 g cap n cc s y1 c tl d h1 hk1 y1n hc).mono ?_
  rintro e w2 ⟨x2, y2, rfl, hxy2, ho2, hk2⟩
  have h2 := h1.aside ho2 hne
  have x2n : x2 < n := by omega
  go_wp2_with fail
  refine (order68 w2 g cap n cc s x1 x2 tl d h2 hk2 x1n x2n).mono ?_
  rintro e w3 ⟨x3, y3, rfl, hxy3, ho3, hk3⟩
  go_wp2
  go_ret
  exact ⟨y3, rfl, by omega, (ho1.trans ho2).trans ho3, hk3⟩

set_option maxHeartbeats 1000000 in
theorem adj61 (w : World) (g cap n cc s a : Nat) (tl : Nat → Value) (d : Array Int) (h0 : St w w g cap n tl d) (hs : Cnt w s) (hne : g ≠ s) (ha : 1 ≤ a) (hb : a + 1 < n) (hn : n ≤ 1048576) :
    Calls Yba.prog 61 #[.slice (some ⟨g, 0, none⟩) n cc, .int .i64 a, .pointer (some ⟨s, 0, none⟩)] w fun e w' => ∃ m : Nat, e = .returned (.int .i64 m) ∧ (m = a - 1 ∨ m = a ∨ m = a + 1) ∧ CntStep s w w' := by
  have e1 : (a : Int) - 1 = ((a - 1 : Nat) : Int) := by omega
  go_enter Yba.func61, Yba.ntmps61
  go_wp2_with fail
  have HC := median62 w g cap n cc s (a - 1) a (a + 1) tl d h0 hs hne (by omega) (by omega) (by omega)
  rw [show (((a + 1 : Nat)) : Int) = (a : Int) + 1 by omega] at HC
  refine HC.mono ?_
  rintro e w1 ⟨m, rfl, hm, ho⟩
  clear HC
  go_wp2
  go_ret
  exact ⟨m, rfl, hm, ho⟩

theorem cnt_new (w : World) : Cnt (w.alloc (Obj.cells #[.int .i64 0] 3)) w.heap.size := by
  refine ⟨0, _, heap_alloc_new _ _, rfl, fun j hj => ?_⟩
  obtain rfl : j = 0 := by omega
  rfl

/-- What choosePivot answers. -/
def Pivots (w w' : World) (g cap n : Nat) (tl : Nat → Value) (d : Array Int) (a b : Nat) (e : Ending) : Prop :=
  ∃ (m : Nat) (h : Int), e = .returned (.tuple #[.int .i64 m, .int .i64 h]) ∧ a ≤ m ∧ m < b ∧ (h = 0 ∨ h = 1 ∨ h = 2) ∧ St w w' g cap n tl d

theorem only_new {w w' : World} {g : Nat} {o : Obj} (hg : g < w.heap.size) (h : Only w.heap.size (w.alloc o) w') : Only g w w' := by
  have hsz : (w.alloc o).heap.size = w.heap.size + 1 := by simp
  refine ⟨(((Below.refl w.heap.size w).alloc (Nat.le_refl _) o).trans h.1).mono (Nat.le_of_lt hg), fun b hb hne => ?_⟩
  rw [h.2 b (by omega) (by omega), Below.heap_alloc _ _ _ hb]

set_option maxHeartbeats 2000000 in
theorem pivot33 (w : World) (g cap n cc a L : Nat) (tl : Nat → Value) (d : Array Int) (h0 : St w w g cap n tl d) (hL : 12 < L) (hb : a + L ≤ n) (hn : n ≤ 1048576) :
    Calls Yba.prog 33 #[.slice (some ⟨g, 0, none⟩) n cc, .int .i64 a, .int .i64 ((a : Int) + L)] w fun e w' => Pivots w w' g cap n tl d a (a + L) e := by
  obtain ⟨Q, hQ⟩ : ∃ Q, Q = L / 4 := ⟨_, rfl⟩
  have eL : (a : Int) + L - a = L := by omega
  have eQ : (L : Int) / 4 = Q := by omega
  have HQ := hide hQ
  clear hQ
  have q1 : decide ((8 : Int) ≤ L) = true := decide_eq_true (by omega)
  by_cases h50 : 50 ≤ L
  · have q2 : decide ((50 : Int) ≤ L) = true := decide_eq_true (by omega)
    go_enter Yba.func33, Yba.ntmps33
    go_wp2_with fail
    have hgl := h0.lt
    have hSw : Hid (St (w.alloc (Obj.cells #[.int .i64 0] 3)) (w.alloc (Obj.cells #[.int .i64 0] 3)) g cap n tl d) := hide (h0.alloc _).start
    have hCw : Hid (Cnt (w.alloc (Obj.cells #[.int .i64 0] 3)) w.heap.size) := hide (cnt_new w)
    have hOw : Hid (∀ w', Only w.heap.size (w.alloc (Obj.cells #[.int .i64 0] 3)) w' → Only g w w') := hide (fun w' h => only_new hgl h)
    have hne : Hid (g ≠ w.heap.size) := hide (by omega)
    have HS0 := hide h0
    generalize hw1 : w.alloc (Obj.cells #[.int .i64 0] 3) = w1 at hSw hCw hOw ⊢
    generalize hs1 : w.heap.size = s at hCw hOw hne ⊢
    clear hw1 h0 hgl hs1
    have n1 : (a : Int) + Q = ((a + Q : Nat) : Int) := by omega
    rw [n1]
    refine (adj61 w1 g cap n cc s (a + Q) tl d hSw.out hCw.out hne.out (by have := HQ.out; omega) (by have := HQ.out; omega) hn).mono ?_
    rintro e w2 ⟨m1, rfl, hm1, ho1, hk1⟩
    have h2 := hSw.out.aside ho1 hne.out
    clear n1
    go_wp2_with fail
    have n2 : (a : Int) + Q * 2 = ((a + Q * 2 : Nat) : Int) := by omega
    rw [n2]
    refine (adj61 w2 g cap n cc s (a + Q * 2) tl d h2 hk1 hne.out (by have := HQ.out; omega) (by have := HQ.out; omega) hn).mono ?_
    rintro e w3 ⟨m2, rfl, hm2, ho2, hk2⟩
    have h3 := h2.aside ho2 hne.out
    clear n2
    go_wp2_with fail
    have n3 : (a : Int) + Q * 3 = ((a + Q * 3 : Nat) : Int) := by omega
    rw [n3]
    refine (adj61 w3 g cap n cc s (a + Q * 3) tl d h3 hk2 hne.out (by have := HQ.out; omega) (by have := HQ.out; omega) hn).mono ?_
    rintro e w4 ⟨m3, rfl, hm3, ho3, hk3⟩
    have h4 := h3.aside ho3 hne.out
    clear n3
    go_wp2_with fail
    refine (median62 w4 g cap n cc s m1 m2 m3 tl d h4 hk3 hne.out (by have := HQ.out; omega) (by have := HQ.out; omega) (by have := HQ.out; omega)).mono ?_
    rintro e w5 ⟨m, rfl, hm, ho4, hkE⟩
    have hoE := ((ho1.trans ho2).trans ho3).trans ho4
    have hmR : a ≤ m ∧ m < a + L := by have := HQ.out; omega
    clear ho1 ho2 ho3 ho4 h2 h3 h4 hk1 hk2 hk3 hm1 hm2 hm3 hm
    obtain ⟨kk, hkk⟩ := hkE
    have ck : w5.cell? ⟨s, 0, none⟩ = some (.int .i64 kk) := hkk.cell (j := 0) (by omega)
    have hfin : Hid (St w w5 g cap n tl d) := hide ⟨HS0.out.1, HS0.out.2.1, (hSw.out.aside hoE hne.out).2.2.1, hOw.out _ hoE⟩
    clear hkk hoE
    by_cases z0 : kk = 0
    · subst z0
      go_wp2
      go_ret2
      exact ⟨m, 1, rfl, by omega, by omega, Or.inr (Or.inl rfl), hfin.out⟩
    · by_cases z1 : kk = 12
      · subst z1
        go_wp2
        go_ret2
        exact ⟨m, 2, rfl, by omega, by omega, Or.inr (Or.inr rfl), hfin.out⟩
      · have y0 : (kk == 0) = false := by simpa using z0
        have y1 : (kk == 12) = false := by simpa using z1
        go_wp2
        go_ret2
        exact ⟨m, 0, rfl, by omega, by omega, Or.inl rfl, hfin.out⟩
  · have q2 : decide ((50 : Int) ≤ L) = false := decide_eq_false (by omega)
    go_enter Yba.func33, Yba.ntmps33
    go_wp2_with fail
    have hgl := h0.lt
    have hSw : Hid (St (w.alloc (Obj.cells #[.int .i64 0] 3)) (w.alloc (Obj.cells #[.int .i64 0] 3)) g cap n tl d) := hide (h0.alloc _).start
    have hCw : Hid (Cnt (w.alloc (Obj.cells #[.int .i64 0] 3)) w.heap.size) := hide (cnt_new w)
    have hOw : Hid (∀ w', Only w.heap.size (w.alloc (Obj.cells #[.int .i64 0] 3)) w' → Only g w w') := hide (fun w' h => only_new hgl h)
    have hne : Hid (g ≠ w.heap.size) := hide (by omega)
    have HS0 := hide h0
    generalize hw1 : w.alloc (Obj.cells #[.int .i64 0] 3) = w1 at hSw hCw hOw ⊢
    generalize hs1 : w.heap.size = s at hCw hOw hne ⊢
    clear hw1 h0 hgl hs1
    have n1 : (a : Int) + Q = ((a + Q : Nat) : Int) := by omega
    have n2 : (a : Int) + Q * 2 = ((a + Q * 2 : Nat) : Int) := by omega
    have n3 : (a : Int) + Q * 3 = ((a + Q * 3 : Nat) : Int) := by omega
    rw [n1, n2, n3]
    clear n1 n2 n3
    refine (median62 w1 g cap n cc s (a + Q) (a + Q * 2) (a + Q * 3) tl d hSw.out hCw.out hne.out (by have := HQ.out; omega) (by have := HQ.out; omega) (by have := HQ.out; omega)).mono ?_
    rintro e w5 ⟨m, rfl, hm, hoE, hkE⟩
    have hmR : a ≤ m ∧ m < a + L := by have := HQ.out; omega
    clear hm
    obtain ⟨kk, hkk⟩ := hkE
    have ck : w5.cell? ⟨s, 0, none⟩ = some (.int .i64 kk) := hkk.cell (j := 0) (by omega)
    have hfin : Hid (St w w5 g cap n tl d) := hide ⟨HS0.out.1, HS0.out.2.1, (hSw.out.aside hoE hne.out).2.2.1, hOw.out _ hoE⟩
    clear hkk hoE
    by_cases z0 : kk = 0
    · subst z0
      go_wp2
      go_ret2
      exact ⟨m, 1, rfl, by omega, by omega, Or.inr (Or.inl rfl), hfin.out⟩
    · by_cases z1 : kk = 12
      · subst z1
        go_wp2
        go_ret2
        exact ⟨m, 2, rfl, by omega, by omega, Or.inr (Or.inr rfl), hfin.out⟩
      · have y0 : (kk == 0) = false := by simpa using z0
        have y1 : (kk == 12) = false := by simpa using z1
        go_wp2
        go_ret2
        exact ⟨m, 0, rfl, by omega, by omega, Or.inl rfl, hfin.out⟩

end Go.Proofs.Ybulkdtni.lawS6014CWhole
