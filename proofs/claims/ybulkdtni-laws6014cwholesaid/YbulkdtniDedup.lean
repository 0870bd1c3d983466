/-
  graph.dedup over sorted links.
-/
import Derived.Test.YbulkdtniLinks
import Derived.Test.YbulkdtniDed
import Derived.Laws.StructEq
import Derived.Shelf.SlicesE.Compact
namespace Go.Proofs.Ybulkdtni.lawS6014CWhole
open Go.RowKit Go.Proofs.Ybulkdtni.Own
open Go.Sort (SortedIn)

/-- Block g holds the N links of D, then whatever 'tl' says; only block g turned since w0. -/
def LSt (w0 w : World) (g cap N : Nat) (tl : Nat → Value) (D : Array (Int × Int)) : Prop :=
  D.size = N ∧ N * 2 ≤ cap ∧ RowF w g 65 cap (fun j => if j < N * 2 then linkCell D j else tl j) ∧ Only g w0 w

variable {w0 w : World} {g cap N : Nat} {tl : Nat → Value} {D : Array (Int × Int)}

theorem linkCell_0 (D : Array (Int × Int)) (t : Nat) : linkCell D (t * 2) = .int .u64 D[t]!.1 := by
  unfold linkCell; rw [if_pos (by omega), show t * 2 / 2 = t by omega]
theorem linkCell_1 (D : Array (Int × Int)) (t : Nat) : linkCell D (t * 2 + 1) = .int .u64 D[t]!.2 := by
  unfold linkCell; rw [if_neg (by omega), show (t * 2 + 1) / 2 = t by omega]

theorem LSt.cell0 (h : LSt w0 w g cap N tl D) {t : Nat} (ht : t < N) : w.cell? ⟨g, t * 2, none⟩ = some (.int .u64 D[t]!.1) := by
  have := h.2.2.1.cell (j := t * 2) (by have := h.2.1; omega)
  rw [if_pos (by omega), linkCell_0] at this
  exact this
theorem LSt.cell1 (h : LSt w0 w g cap N tl D) {t : Nat} (ht : t < N) : w.cell? ⟨g, t * 2 + 1, none⟩ = some (.int .u64 D[t]!.2) := by
  have := h.2.2.1.cell (j := t * 2 + 1) (by have := h.2.1; omega)
  rw [if_pos (by omega), linkCell_1] at this
  exact this
theorem LSt.frozen (h : LSt w0 w g cap N tl D) (t : Nat) : w.frozen? ⟨g, t, none⟩ = false := h.2.2.1.frozen t
theorem LSt.lt (h : LSt w0 w g cap N tl D) : g < w.heap.size := h.2.2.1.lt
theorem LSt.alloc (h : LSt w0 w g cap N tl D) (o : Obj) : LSt w0 (w.alloc o) g cap N tl D := ⟨h.1, h.2.1, h.2.2.1.alloc o, h.2.2.2.alloc h.lt o⟩
theorem LSt.drewN (h : LSt w0 w g cap N tl D) (q : Nat) : LSt w0 (w.drewN q) g cap N tl D := ⟨h.1, h.2.1, h.2.2.1.drewN q, h.2.2.2.drewN q⟩

theorem LSt.set (h : LSt w0 w g cap N tl D) {k : Nat} (hk : k < N) (p : Int × Int) :
    LSt w0 ((w.setCell ⟨g, k * 2, none⟩ (.int .u64 p.1)).setCell ⟨g, k * 2 + 1, none⟩ (.int .u64 p.2)) g cap N tl (D.setIfInBounds k p) := by
  have hs := h.1
  refine ⟨by simpa using hs, h.2.1, ?_, (h.2.2.2.setCell _ _).setCell _ _⟩
  have h1 := h.2.2.1.store (k * 2) (.int .u64 p.1) (f' := fun j => if j = k * 2 then .int .u64 p.1 else if j < N * 2 then linkCell D j else tl j) (fun _ => if_pos rfl) (fun j _ hj => if_neg hj)
  refine h1.store (k * 2 + 1) (.int .u64 p.2) (fun _ => ?_) (fun j _ hj => ?_)
  · rw [if_pos (by omega), linkCell_1, set_at D k p (by omega)]
  · by_cases hjn : j < N * 2
    · rw [if_pos hjn]
      by_cases e : j = k * 2
      · subst e; rw [if_pos rfl, linkCell_0, set_at D k p (by omega)]
      · rw [if_neg e, if_pos hjn]
        unfold linkCell
        rw [set_off D k p (j / 2) (by omega)]
    · rw [if_neg hjn, if_neg (by omega), if_neg hjn]

theorem total_ltL : Total ltL := ⟨swo_ltL, fun x y h1 h2 => by
  have a : ¬ (x.1 < y.1 ∨ (x.1 = y.1 ∧ x.2 < y.2)) := fun h => by rw [ltL_true.2 h] at h1; cases h1
  have b : ¬ (y.1 < x.1 ∨ (y.1 = x.1 ∧ y.2 < x.2)) := fun h => by rw [ltL_true.2 h] at h2; cases h2
  exact Prod.ext (by omega) (by omega)⟩

theorem neq65 (x y : Int × Int) (w : World) : Sem.run Yba.prog (binOp .neq 65 (.agg #[.int .u64 x.1, .int .u64 x.2]) (.agg #[.int .u64 y.1, .int .u64 y.2])) w = .ok (.bool (!(x.1 == y.1 && x.2 == y.2))) w := by
  have u24 := Yba.underlying24
  have a24 := Yba.isAgg24
  have z24 := Yba.sizeOf24
  have hS : Yba.prog.underlying 65 = some (.struct (Yba.prog.fieldsOf 65)) := by kernel_rfl
  have hp : Yba.prog.stoodInHeld 65 = false := by kernel_rfl
  rw [run_neq_struct, show (10000 : Nat) = 9999 + 1 from rfl, run_equalIn_agg w 9999 65 _ _ hS hp]
  simp only [Program.fieldsOf, Yba.underlying65]
  go_simp
  by_cases h1 : x.fst = y.fst <;> by_cases h2 : x.snd = y.snd <;> simp [h1, h2]

theorem guard65 (op : BinOp) (a b : Operand) (x y : Int × Int) (w : World) : Sem.run Yba.prog (eqGuard op 65 a b (.agg #[.int .u64 x.1, .int .u64 x.2]) (.agg #[.int .u64 y.1, .int .u64 y.2])) w = .ok () w :=
  (GuardAt.agg (P := Yba.prog) (T := 65) (fun p : Int × Int => #[.int .u64 p.1, .int .u64 p.2]) (by kernel_rfl)) op a b x y w

set_option maxHeartbeats 2000000 in
theorem dedup15 (w : World) (g cap N c : Nat) (tl : Nat → Value) (d : Array (Int × Int)) (h0 : LSt w w g cap N tl d) (hs : SortedIn ltL 0 N d) (hN : N ≤ 1048576) (hc : N ≤ c) :
    Calls Yba.prog 15 #[.slice (some ⟨g, 0, none⟩) N c] w fun e w' => ∃ (m : Nat) (D : Array (Int × Int)), e = .returned (.slice (some ⟨g, 0, none⟩) m c) ∧ LSt w w' g cap N tl D ∧ Ded ltL d D N m := by
  have H0 := hide h0
  clear h0
  go_enter Yba.func15, Yba.ntmps15
  go_wp2_with fail
  go_loopw [3, 8, 4, 5] (fun vn vx _ _ wr => ∃ (k i : Nat) (D : Array (Int × Int)), vn = .int .i64 k ∧ vx = .int .i64 i ∧ i ≤ N ∧ Hid (LSt w wr g cap N tl D) ∧ Hid (Ded ltL d D i k)) (fun _ vx _ _ _ => N - (intOf vx).toNat)
  case atStart => exact ⟨0, 0, d, by simp, by simp, by omega, H0, hide (Ded.start _ _)⟩
  case round =>
    obtain ⟨k, i, D, rfl, rfl, hi, hS, hD⟩ := hrel
    have hki := hD.out.ki
    by_cases hlt : i < N
    · obtain ⟨u, hu⟩ : ∃ u, u = D[i]!.1 := ⟨_, rfl⟩
      obtain ⟨v, hv⟩ : ∃ v, v = D[i]!.2 := ⟨_, rfl⟩
      have HU := hide hu
      have HV := hide hv
      have c0 : wr.cell? ⟨g, i * 2, none⟩ = some (.int .u64 u) := by rw [hu]; exact hS.out.cell0 hlt
      have c1 : wr.cell? ⟨g, i * 2 + 1, none⟩ = some (.int .u64 v) := by rw [hv]; exact hS.out.cell1 hlt
      clear hu hv
      have q1 : (0 : Int) ≤ i := by omega
      have q2 : (i : Int) < N := by omega
      go_wp2_with fail
      have hSA : Hid (LSt w (wr.alloc (Obj.cells #[.int .u64 u, .int .u64 v] 65)) g cap N tl D) := hide (hS.out.alloc _)
      have p0 : (wr.alloc (Obj.cells #[.int .u64 u, .int .u64 v] 65)).cell? ⟨wr.heap.size, 0, none⟩ = some (.int .u64 u) := by
        rw [cell_of_row _ _ _ _ _ _ (heap_alloc_new _ _)]; rfl
      have p1 : (wr.alloc (Obj.cells #[.int .u64 u, .int .u64 v] 65)).cell? ⟨wr.heap.size, 1, none⟩ = some (.int .u64 v) := by
        rw [cell_of_row _ _ _ _ _ _ (heap_alloc_new _ _)]; rfl
      have hsg : wr.heap.size ≠ g := by have := hS.out.lt; omega
      generalize hwA : wr.alloc (Obj.cells #[.int .u64 u, .int .u64 v] 65) = wA at hSA p0 p1 ⊢
      generalize hsz : wr.heap.size = sb at p0 p1 hsg ⊢
      clear hwA hsz c0 c1 hS
      have hdi : Hid (d[i]! = (u, v)) := hide (by
        rw [← hD.out.rest i hki]
        exact Prod.ext HU.out.symm HV.out.symm)
      by_cases h0 : i = 0
      · subst h0
        obtain rfl : k = 0 := by omega
        go_quiet (fail)
        have hSq : Hid (LSt w (wA.drewN nq) g cap N tl D) := hide (hSA.out.drewN nq)
        have p0' : (wA.drewN nq).cell? ⟨sb, 0, none⟩ = some (.int .u64 u) := p0
        have p1' : (wA.drewN nq).cell? ⟨sb, 1, none⟩ = some (.int .u64 v) := p1
        generalize hwq : wA.drewN nq = wq at hSq p0' p1' ⊢
        clear hwq p0 p1 hSA
        have f0 := hSq.out.frozen 0
        have f1 := hSq.out.frozen 1
        have e0 := hSq.out.cell0 (t := 0) (by omega)
        have e1 := hSq.out.cell1 (t := 0) (by omega)
        go_wp2
        go_roundw
        case rel => exact ⟨1, 1, D.setIfInBounds 0 (u, v), rfl, rfl, by omega, hide (hSq.out.set (k := 0) (by omega) (u, v)), hide (by
          have := hD.out.keep total_ltL (by rw [H0.out.1]; exact hs) (by rw [H0.out.1]; omega) (Or.inl rfl)
          rw [hdi.out] at this
          exact this)⟩
        case measure => simp [intOf]; omega
      · have hlast := hide (hD.out.last (by omega))
        obtain ⟨k1, rfl⟩ : ∃ k1, k = k1 + 1 := ⟨k - 1, by have := hlast.out.1; omega⟩
        obtain ⟨a, ha⟩ : ∃ a, a = D[k1]!.1 := ⟨_, rfl⟩
        obtain ⟨b, hb⟩ : ∃ b, b = D[k1]!.2 := ⟨_, rfl⟩
        have HA := hide ha
        have HB := hide hb
        have r0 : wA.cell? ⟨g, k1 * 2, none⟩ = some (.int .u64 a) := by rw [ha]; exact hSA.out.cell0 (by omega)
        have r1 : wA.cell? ⟨g, k1 * 2 + 1, none⟩ = some (.int .u64 b) := by rw [hb]; exact hSA.out.cell1 (by omega)
        clear ha hb
        have z0 : ((i : Int) == 0) = false := by simpa using (by omega : ¬ (i : Int) = 0)
        have z1 : (0 : Int) ≤ (k1 : Int) := by omega
        have z2 : (k1 : Int) < N := by omega
        have z3 : (k1 : Int) + 1 < N := by omega
        have z4 : IntKind.i64.wrap (k1 : Int) = k1 := by simp [IntKind.wrap, IntKind.bits, IntKind.signed]; omega
        by_cases heq : u = a ∧ v = b
        · have hng : ∀ w, Sem.run Yba.prog (binOp .neq 65 (.agg #[.int .u64 u, .int .u64 v]) (.agg #[.int .u64 a, .int .u64 b])) w = .ok (.bool false) w := fun w => by
            have := neq65 (u, v) (a, b) w
            simp only at this
            rw [this, heq.1, heq.2]; simp
          have HEQ := hide heq
          clear heq
          have hgg := fun op o1 o2 w => guard65 op o1 o2 (u, v) (a, b) w
          simp only at hgg
          go_quiet (fail)
          have hSq : Hid (LSt w (wA.drewN nq) g cap N tl D) := hide (hSA.out.drewN nq)
          have p0' : (wA.drewN nq).cell? ⟨sb, 0, none⟩ = some (.int .u64 u) := p0
          have p1' : (wA.drewN nq).cell? ⟨sb, 1, none⟩ = some (.int .u64 v) := p1
          generalize hwq : wA.drewN nq = wq at hSq p0' p1' ⊢
          clear hwq p0 p1 hSA r0 r1 hng hgg
          go_wp2
          go_roundw
          case rel => exact ⟨k1 + 1, i + 1, D, by go_num, by go_num, by omega, hSq, hide (hD.out.skip (by rw [H0.out.1]; omega) (by omega) (by
            rw [hdi.out, Nat.add_sub_cancel, HEQ.out.1, HEQ.out.2]
            exact Prod.ext HA.out HB.out))⟩
          case measure => simp [intOf]; omega
        · have hng : ∀ w, Sem.run Yba.prog (binOp .neq 65 (.agg #[.int .u64 u, .int .u64 v]) (.agg #[.int .u64 a, .int .u64 b])) w = .ok (.bool true) w := fun w => by
            have := neq65 (u, v) (a, b) w
            simp only at this
            rw [this]
            by_cases h : u = a
            · have h2 : ¬ v = b := fun h2 => heq ⟨h, h2⟩
              simp [h, h2]
            · simp [h]
          have HEQ := hide heq
          clear heq
          have hgg := fun op o1 o2 w => guard65 op o1 o2 (u, v) (a, b) w
          simp only at hgg
          go_quiet (fail)
          have hSq : Hid (LSt w (wA.drewN nq) g cap N tl D) := hide (hSA.out.drewN nq)
          have p0' : (wA.drewN nq).cell? ⟨sb, 0, none⟩ = some (.int .u64 u) := p0
          have p1' : (wA.drewN nq).cell? ⟨sb, 1, none⟩ = some (.int .u64 v) := p1
          generalize hwq : wA.drewN nq = wq at hSq p0' p1' ⊢
          clear hwq p0 p1 hSA r0 r1 hng hgg
          have f0 := hSq.out.frozen ((k1 + 1) * 2)
          have f1 := hSq.out.frozen ((k1 + 1) * 2 + 1)
          have e0 := hSq.out.cell0 (t := k1 + 1) (by omega)
          have e1 := hSq.out.cell1 (t := k1 + 1) (by omega)
          go_wp2
          go_roundw
          case rel => exact ⟨k1 + 1 + 1, i + 1, D.setIfInBounds (k1 + 1) (u, v), by go_num, by go_num, by omega, hide (hSq.out.set (k := k1 + 1) (by omega) (u, v)), hide (by
            have := hD.out.keep total_ltL (by rw [H0.out.1]; exact hs) (by rw [H0.out.1]; omega) (Or.inr (by
              rw [hdi.out, Nat.add_sub_cancel]
              intro h
              exact HEQ.out ⟨by rw [HA.out, ← h], by rw [HB.out, ← h]⟩))
            rw [hdi.out] at this
            exact this)⟩
          case measure => simp [intOf]; omega
    · go_wp2
      exact bodyPost_ret (v := .slice (some ⟨g, 0, none⟩) k c) (by simp [results, go_sem]) rfl ⟨k, D, rfl, hS.out, by
        obtain rfl : i = N := by omega
        exact hD.out⟩

end Go.Proofs.Ybulkdtni.lawS6014CWhole
