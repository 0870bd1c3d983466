/-
  slices.nextPowerOfTwo, xorshift.Next, breakPatternsOrdered at uint64.
-/
import Derived.Test.YbulkdtniPivot
import Derived.Shelf.Small.Bits
import Derived.Shelf.Lay
import Derived.Ground.NamesProg
import Derived.Sort.WalkA14
import Derived.Laws.BitsAllLaws
namespace Go.Proofs
shelf_lay Lays.n125 Nm 125 at Yba as Yba.lays125
end Go.Proofs
namespace Go.Proofs.Ybulkdtni.lawS6014CWhole
open Go.RowKit Go.Proofs.Ybulkdtni.Own
open Go.Sort (swp ltInt PermIn)

theorem len21 (x : Nat) (w : World) (h : x ≤ 1048576) : Calls Yba.prog 21 #[.int .u64 x] w fun e w' => e = .returned (.int .i64 (Lib.bitLen x)) ∧ w' = w := by
  have := Any.bits_Len Yba.lays125 (x : Int) w (by omega) (by omega)
  change Calls Yba.prog 21 _ _ _ at this
  simpa using this

/-- A bit operation's answer is a uint64. -/
theorem bits_range (op : BinOp) (x y : Int) : 0 ≤ bits op .u64 x y ∧ bits op .u64 x y < 18446744073709551616 := by
  unfold bits
  simp only [IntKind.wrap, IntKind.bits, IntKind.signed]
  simp
  omega

theorem pow_le (L : Nat) (h : 0 < L) (hL : L ≤ 1048576) : 2 ^ Lib.bitLen L ≤ 2 * L ∧ Lib.bitLen L ≤ 22 := by
  have e : Lib.bitLen L = Sort.bitsLen L := bitLen_eq L (by omega)
  have e2 : Sort.bitsLen L = Nat.log2 L + 1 := if_neg (by omega)
  have h1 := Nat.log2_self_le (n := L) (by omega)
  have h2 : Nat.log2 L < 21 := (Nat.log2_lt (by omega)).2 (by omega)
  rw [e, e2, Nat.pow_succ]
  omega

set_option maxHeartbeats 1000000 in
theorem npow59 (L : Nat) (w : World) (h : 0 < L) (hL : L ≤ 1048576) : Calls Yba.prog 59 #[.int .i64 L] w fun e w' => ∃ M : Nat, e = .returned (.int .u64 M) ∧ 0 < M ∧ M ≤ 2 * L ∧ w' = w := by
  obtain ⟨k, hk⟩ : ∃ k, k = Lib.bitLen L := ⟨_, rfl⟩
  have hp := pow_le L h hL
  have hl := len21 L w hL
  rw [← hk] at hp hl
  have hpp := hide hp
  have q1 : (k : Int) ≤ 64 := by omega
  clear hk hp
  go_enter Yba.func59, Yba.ntmps59
  go_wp2_with fail
  refine hl.mono ?_
  rintro e w' ⟨rfl, rfl⟩
  clear hl
  go_wp2
  go_ret
  refine ⟨2 ^ k, ?_, Nat.pow_pos (by omega), hpp.out.1, rfl⟩
  have h2 : (2 : Nat) ^ k ≤ 2 * L := hpp.out.1
  have h3 : IntKind.u64.wrap ((2 : Int) ^ k) = ((2 ^ k : Nat) : Int) := by
    rw [IntKind.wrap_u64]
    have : ((2 : Int) ^ k) = ((2 ^ k : Nat) : Int) := by simp
    rw [this]
    generalize (2 : Nat) ^ k = P at h2 ⊢
    omega
  simp [h3]

set_option maxHeartbeats 1000000 in
theorem next60 (w : World) (s : Nat) (X : Int) (hs : RowF w s 120 1 (fun _ => .int .u64 X)) : Calls Yba.prog 60 #[.pointer (some ⟨s, 0, none⟩)] w fun e w' => ∃ r : Int, e = .returned (.int .u64 r) ∧ 0 ≤ r ∧ r < 18446744073709551616 ∧ RowF w' s 120 1 (fun _ => .int .u64 r) ∧ Only s w w' := by
  have HS := hide hs
  have c0 := hs.cell (j := 0) (by omega)
  have f0 := hs.frozen 0
  clear hs
  go_enter Yba.func60, Yba.ntmps60
  go_wp2_with fail
  go_region
  all_goals go_wp2_with fail
  have R1 := hide ((HS.out.store 0 (.int .u64 (bits BinOp.xor IntKind.u64 X (IntKind.u64.wrap (X * 8192)))) (f' := fun _ => .int .u64 (bits BinOp.xor IntKind.u64 X (IntKind.u64.wrap (X * 8192)))) (fun _ => rfl) (fun j hj hne => by omega)).drew)
  have O1 := hide (((Only.refl s w).setCell 0 (.int .u64 (bits BinOp.xor IntKind.u64 X (IntKind.u64.wrap (X * 8192))))).drewN 1)
  generalize hw1 : (w.setCell ⟨s, 0, none⟩ (.int .u64 (bits BinOp.xor IntKind.u64 X (IntKind.u64.wrap (X * 8192))))).drew = w1 at R1 ⊢
  rw [show (w.setCell ⟨s, 0, none⟩ (.int .u64 (bits BinOp.xor IntKind.u64 X (IntKind.u64.wrap (X * 8192))))).drewN 1 = w1 from hw1] at O1
  have X01 := hide (bits_range BinOp.xor X (IntKind.u64.wrap (X * 8192)))
  generalize bits BinOp.xor IntKind.u64 X (IntKind.u64.wrap (X * 8192)) = X1 at R1 X01 ⊢
  obtain ⟨x1, y1⟩ := X01.out
  have c1 := R1.out.cell (j := 0) (by omega)
  have f1 := R1.out.frozen 0
  clear hw1 c0 f0 HS X01
  go_region
  all_goals go_wp2_with fail
  have R2 := hide ((R1.out.store 0 (.int .u64 (bits BinOp.xor IntKind.u64 X1 (X1 / 128))) (f' := fun _ => .int .u64 (bits BinOp.xor IntKind.u64 X1 (X1 / 128))) (fun _ => rfl) (fun j hj hne => by omega)).drew)
  have O2 := hide (((Only.refl s w1).setCell 0 (.int .u64 (bits BinOp.xor IntKind.u64 X1 (X1 / 128)))).drewN 1)
  generalize hw2 : (w1.setCell ⟨s, 0, none⟩ (.int .u64 (bits BinOp.xor IntKind.u64 X1 (X1 / 128)))).drew = w2 at R2 ⊢
  rw [show (w1.setCell ⟨s, 0, none⟩ (.int .u64 (bits BinOp.xor IntKind.u64 X1 (X1 / 128)))).drewN 1 = w2 from hw2] at O2
  have X02 := hide (bits_range BinOp.xor X1 (X1 / 128))
  generalize bits BinOp.xor IntKind.u64 X1 (X1 / 128) = X2 at R2 X02 ⊢
  obtain ⟨x2, y2⟩ := X02.out
  have c2 := R2.out.cell (j := 0) (by omega)
  have f2 := R2.out.frozen 0
  clear hw2 c1 f1 R1 X02
  go_region
  all_goals go_wp2_with fail
  have R3 := hide ((R2.out.store 0 (.int .u64 (bits BinOp.xor IntKind.u64 X2 (IntKind.u64.wrap (X2 * 131072)))) (f' := fun _ => .int .u64 (bits BinOp.xor IntKind.u64 X2 (IntKind.u64.wrap (X2 * 131072)))) (fun _ => rfl) (fun j hj hne => by omega)).drew)
  have O3 := hide (((Only.refl s w2).setCell 0 (.int .u64 (bits BinOp.xor IntKind.u64 X2 (IntKind.u64.wrap (X2 * 131072))))).drewN 1)
  generalize hw3 : (w2.setCell ⟨s, 0, none⟩ (.int .u64 (bits BinOp.xor IntKind.u64 X2 (IntKind.u64.wrap (X2 * 131072))))).drew = w3 at R3 ⊢
  rw [show (w2.setCell ⟨s, 0, none⟩ (.int .u64 (bits BinOp.xor IntKind.u64 X2 (IntKind.u64.wrap (X2 * 131072))))).drewN 1 = w3 from hw3] at O3
  have X03 := hide (bits_range BinOp.xor X2 (IntKind.u64.wrap (X2 * 131072)))
  generalize bits BinOp.xor IntKind.u64 X2 (IntKind.u64.wrap (X2 * 131072)) = X3 at R3 X03 ⊢
  obtain ⟨x3, y3⟩ := X03.out
  have c3 := R3.out.cell (j := 0) (by omega)
  have f3 := R3.out.frozen 0
  clear hw3 c2 f2 R2 X03
  go_wp2
  go_ret
  exact ⟨X3, rfl, x3, y3, R3.out, (O1.out.trans O2.out).trans O3.out⟩

theorem St.asideNew {w wr w' : World} {g cap n : Nat} {tl : Nat → Value} {d : Array Int} {s : Nat} (h : St w wr g cap n tl d) (ho : Only s wr w') (hg : g < s) (hs : w.heap.size ≤ s) : St w w' g cap n tl d :=
  ⟨h.1, h.2.1, h.2.2.1.of_block (ho.2 g h.lt (by omega)), h.2.2.2.1.trans (ho.1.mono (Nat.le_of_lt hg)), fun b hb hne => (ho.2 b (Nat.lt_of_lt_of_le hb h.2.2.2.1.size) (by omega)).trans (h.2.2.2.2 b hb hne)⟩

theorem and_le (r : Int) (M : Nat) (h0 : 0 ≤ r) (h1 : r < 18446744073709551616) (hM : 0 < M) (hM2 : M ≤ 2097152) : ∃ O : Nat, bits BinOp.and IntKind.u64 r ((M : Int) - 1) = (O : Int) ∧ O < M := by
  refine ⟨r.toNat &&& ((M : Int) - 1).toNat, u64_and r _ h0 h1 (by omega) (by omega), ?_⟩
  have := Nat.and_le_right (n := r.toNat) (m := ((M : Int) - 1).toNat)
  omega

set_option maxHeartbeats 2000000 in
theorem break32 (w : World) (g cap n cc a L : Nat) (tl : Nat → Value) (d : Array Int) (h0 : St w w g cap n tl d) (hL : 12 < L) (hb : a + L ≤ n) (hn : n ≤ 1048576) :
    Calls Yba.prog 32 #[.slice (some ⟨g, 0, none⟩) n cc, .int .i64 a, .int .i64 ((a : Int) + L)] w fun e w' => ∃ d', e = .returned (.tuple #[]) ∧ St w w' g cap n tl d' ∧ PermIn a (a + L) d d' := by
  obtain ⟨Q, hQ⟩ : ∃ Q, Q = L / 4 := ⟨_, rfl⟩
  have eL : (a : Int) + L - a = L := by omega
  have eQ : (L : Int) / 4 = Q := by omega
  have q1 : decide ((8 : Int) ≤ L) = true := decide_eq_true (by omega)
  have HQ := hide hQ
  clear hQ
  go_enter Yba.func32, Yba.ntmps32
  go_wp2_with fail
  have hgl := h0.lt
  have hSw : Hid (St w (w.alloc (Obj.cells #[.int .u64 (L : Int)] 120)) g cap n tl d) := hide (h0.alloc _)
  have hRw : Hid (RowF (w.alloc (Obj.cells #[.int .u64 (L : Int)] 120)) w.heap.size 120 1 (fun _ => .int .u64 L)) := hide ((rowF_alloc w [.int .u64 (L : Int)] 120).congr (fun j hj => by
    obtain rfl : j = 0 := by simpa using hj
    rfl))
  have hgs : Hid (g < w.heap.size) := hide hgl
  have hss : Hid (w.heap.size ≤ w.heap.size) := hide (Nat.le_refl _)
  have hne2 : w.heap.size ≠ g := by omega
  refine (npow59 L _ (by omega) (by omega)).mono ?_
  rintro e w1 ⟨M, rfl, hM0, hM1, rfl⟩
  generalize hw1 : w.alloc (Obj.cells #[.int .u64 (L : Int)] 120) = w1 at hSw hRw ⊢
  generalize hs1 : w.heap.size = s at hRw hgs hne2 ⊢
  have hws : Hid (w.heap.size ≤ s) := hide (Nat.le_of_eq hs1)
  clear hss hw1 hs1 h0 hgl
  have qb : (a : Int) + Q * 2 - 1 = ((a + Q * 2 - 1 : Nat) : Int) := by have := HQ.out; omega
  go_wp2_with fail
  go_loopw [9, 10] (fun vi _ wr => ∃ (i : Nat) (D : Array Int) (r : Int), vi = .int .i64 i ∧ a + Q * 2 - 1 ≤ i ∧ i ≤ a + Q * 2 + 2 ∧ Hid (St w wr g cap n tl D) ∧ Hid (RowF wr s 120 1 (fun _ => .int .u64 r)) ∧ Hid (PermIn a (a + L) d D)) (fun vi _ _ => a + Q * 2 + 2 - (intOf vi).toNat)
  case atStart => exact ⟨a + Q * 2 - 1, d, L, by first | rfl | (congr 1; have := HQ.out; omega), by omega, by omega, hSw, hRw, hide (Sort.permIn_refl _ _ _)⟩
  case round =>
    clear hSw hRw
    obtain ⟨i, D, r0, rfl, hi0, hi1, hS, hR, hP⟩ := hrel
    have hQ' := HQ.out
    by_cases hlast : i ≤ a + Q * 2 + 1
    · have p1 : decide ((i : Int) ≤ (a : Int) + Q * 2 + 1) = true := decide_eq_true (by omega)
      have HQ2 := hide hQ'
      have bnd1 : a ≤ i := by omega
      have bnd2 : i < a + L := by omega
      clear hQ'
      go_wp2_with fail
      refine (next60 wr s r0 hR.out).mono ?_
      rintro e w2 ⟨r, rfl, r1, r2, hR2, ho⟩
      have RR := hide hR2
      have tS := hide (hS.out.asideNew ho hgs.out hws.out)
      obtain ⟨O, hO, hOM⟩ := and_le r M r1 r2 hM0 (by omega)
      clear hR2 ho hR
      by_cases hge : L ≤ O
      · have p2 : decide ((L : Int) ≤ (O : Int)) = true := decide_eq_true (by omega)
        have p3 : (O : Int) - L = ((O - L : Nat) : Int) := by omega
        obtain ⟨x, hx⟩ : ∃ x, x = D[i]! := ⟨_, rfl⟩
        obtain ⟨y, hy⟩ : ∃ y, y = D[a + (O - L)]! := ⟨_, rfl⟩
        have HX := hide hx
        have HY := hide hy
        have c0 : w2.cell? ⟨g, i, none⟩ = some (.int .u64 x) := by rw [hx]; exact tS.out.cell (by omega)
        have c1 : w2.cell? ⟨g, a + (O - L), none⟩ = some (.int .u64 y) := by rw [hy]; exact tS.out.cell (by omega)
        have f0 := tS.out.frozen i
        have f1 := tS.out.frozen (a + (O - L))
        obtain ⟨zz, cz⟩ := cell?_setCell_some (p := ⟨g, i, none⟩) (x := .int .u64 y) c1
        clear hx hy
        have q6 : (i : Int) < n := by omega
        have q7 : (a : Int) + ((O : Int) - L) < n := by omega
        have q8 : (0 : Int) ≤ (a : Int) + ((O : Int) - L) := by omega
        go_wp2_with fail
        go_region
        all_goals go_wp2
        go_roundw
        case rel => exact ⟨i + 1, swp D i (a + (O - L)), r, by go_num, by omega, by omega, hide (tS.out.swap (by omega) (by omega) HY.out HX.out).drew, hide (((RR.out.other (a := ⟨g, i, none⟩) (by exact hne2) _).other (a := ⟨g, a + (O - L), none⟩) (by exact hne2) _).drew), hide (Sort.permIn_trans _ _ _ _ _ hP.out (Sort.swp_permIn D a (a + L) i (a + (O - L)) (by omega) (by omega) (by omega) (by omega) (by have := hS.out.1; omega)))⟩
        case measure => simp [intOf]; omega
      · have p2 : decide ((L : Int) ≤ (O : Int)) = false := decide_eq_false (by omega)
        obtain ⟨x, hx⟩ : ∃ x, x = D[i]! := ⟨_, rfl⟩
        obtain ⟨y, hy⟩ : ∃ y, y = D[a + O]! := ⟨_, rfl⟩
        have HX := hide hx
        have HY := hide hy
        have c0 : w2.cell? ⟨g, i, none⟩ = some (.int .u64 x) := by rw [hx]; exact tS.out.cell (by omega)
        have c1 : w2.cell? ⟨g, a + O, none⟩ = some (.int .u64 y) := by rw [hy]; exact tS.out.cell (by omega)
        have f0 := tS.out.frozen i
        have f1 := tS.out.frozen (a + O)
        obtain ⟨zz, cz⟩ := cell?_setCell_some (p := ⟨g, i, none⟩) (x := .int .u64 y) c1
        clear hx hy
        have q6 : (i : Int) < n := by omega
        have q7 : (a : Int) + (O : Int) < n := by omega
        have q8 : (0 : Int) ≤ (a : Int) + (O : Int) := by omega
        go_wp2_with fail
        go_region
        all_goals go_wp2
        go_roundw
        case rel => exact ⟨i + 1, swp D i (a + O), r, by go_num, by omega, by omega, hide (tS.out.swap (by omega) (by omega) HY.out HX.out).drew, hide (((RR.out.other (a := ⟨g, i, none⟩) (by exact hne2) _).other (a := ⟨g, a + O, none⟩) (by exact hne2) _).drew), hide (Sort.permIn_trans _ _ _ _ _ hP.out (Sort.swp_permIn D a (a + L) i (a + O) (by omega) (by omega) (by omega) (by omega) (by have := hS.out.1; omega)))⟩
        case measure => simp [intOf]; omega
    · have p1 : decide ((i : Int) ≤ (a : Int) + Q * 2 + 1) = false := decide_eq_false (by omega)
      have HQ2 := hide hQ'
      clear hQ'
      go_wp2
      go_end0
      exact ⟨D, rfl, hS.out, hP.out⟩

end Go.Proofs.Ybulkdtni.lawS6014CWhole
