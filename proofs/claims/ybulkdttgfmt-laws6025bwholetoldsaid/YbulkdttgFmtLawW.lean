/-
  The law: data with at least one byte, case by case.
-/
import Derived.Test.YbulkdttgFmtLaw
namespace Go.Proofs.YbulkdttgFmt.lawS6025BWhole
open Go.RowKit Go.Proofs.YbulkdttgFmt.Own

set_option maxHeartbeats 1000000 in
theorem uvar_X (g : Nat) (x : Addr) (c : Nat) (s : ByteArray) (w : World) (f : Nat → Int) (hR : RowF w g 27 2 (rF (some x) 0 c 0)) (V : Int) (hcall : Hid (Reads 0 0 f V 0)) :
    Calls Ybaf.prog 12 #[.pointer (some ⟨g, 0, none⟩), .string s] w fun e w' => ∃ p, e = .returned (.tuple #[.int .u64 0, .iface 81 (.pointer p)]) ∧ Below w.heap.size w w' := by
  have h0 : w.cell? ⟨g, 0, none⟩ = some (.slice (some x) 0 c) := hR.cell (j := 0) (by omega)
  have h1 : w.cell? ⟨g, 1, none⟩ = some (.int .i64 0) := hR.cell (j := 1) (by omega)
  have HR := hide hR
  clear hR
  go_enter Ybaf.func12, Ybaf.ntmps12
  go_wp2_with fail
  go_quiet ((go_at_call 22; refine Calls.quiet_of_same (hcall.out _ _ _ (fun j hj => absurd hj (by omega)))))
  rename_i nq
  have k1 : (w.drewN nq).cell? ⟨g, 1, none⟩ = some (.int .i64 0) := h1
  have hB := hide (below_drewN (Below.refl w.heap.size w) nq)
  have hS : Hid ((w.drewN nq).heap.size = w.heap.size) := hide rfl
  generalize hwy : w.drewN nq = wy at k1 hB hS ⊢
  clear h0 h1 HR hwy
  go_wp2_with fail
  refine (errorfA wy.heap.size s 0 _ (new0 _ _ _ _) (new1 _ _ _ _)).mono ?_
  rintro e w2 ⟨p, rfl, hb2⟩
  have hbb : Below w.heap.size w w2 := (hB.out.alloc (Nat.le_of_eq hS.out.symm) _).trans (hb2.mono (by simp [hS.out]))
  clear hb2
  go_wp2
  go_ret2
  exact ⟨p, rfl, hbb⟩

theorem Arg.below {w w' : World} {a : Option Addr} {n : Nat} {f : Nat → Int} (h : Arg w a n f) {B : Nat} (hb : Below B w w') (hB : w.heap.size ≤ B) : Arg w' a n f := by
  intro j hj
  obtain ⟨b, off, e, hlt, hc⟩ := h j hj
  exact ⟨b, off, e, Nat.lt_of_lt_of_le hlt hb.size, by rw [hb.cell (by exact Nat.lt_of_lt_of_le hlt hB)]; exact hc⟩

theorem rF_new (w : World) (a : Option Addr) (n c o : Nat) : RowF (w.alloc (Obj.cells #[.slice a n c, .int .i64 o] 27)) w.heap.size 27 2 (rF a n c o) := by
  refine ⟨_, heap_alloc_new _ _, rfl, fun j hj => ?_⟩
  rcases (by omega : j = 0 ∨ j = 1) with rfl | rfl <;> rfl

theorem arg_off {w : World} {b off len o : Nat} {f : Nat → Int} (hA : Arg w (some ⟨b, off, none⟩) len f) :
    Arg w (some ⟨b, off + o, none⟩) (len - o) (fun j => f (o + j)) := by
  intro j hj
  obtain ⟨b', off', e, hb, hcell⟩ := hA (o + j) (by omega)
  simp at e
  obtain ⟨rfl, rfl⟩ := e
  exact ⟨_, _, rfl, hb, by rw [Nat.add_assoc]; exact hcell⟩

set_option maxRecDepth 100000 in
set_option maxHeartbeats 1000000 in
theorem law_bad (b off n c o : Nat) (s : ByteArray) (u z : Int) (w : World) (f : Nat → Int) (hn : n ≤ 1048576) (hn0 : 0 < n) (hcap : n ≤ c) (ho : o ≤ n) (hoff : Hid (wrap64 (u % ((n : Int) + 1)) = (o : Int))) (hu : 0 ≤ u ∧ u ≤ 18446744073709551615) (hz : 0 ≤ z ∧ z ≤ 255) (hA : Hid (Arg w (some ⟨b, off, none⟩) n f))
    (hcnt : Hid (∀ w1 g, w.heap.size ≤ g → RowF w1 g 27 2 (rF (some ⟨b, off, none⟩) n c o) → Arg w1 (some ⟨b, off, none⟩) n f → Calls Ybaf.prog 6 #[.pointer (some ⟨g, 0, none⟩), .string s, .int .i64 (z + 1)] w1 fun e w' => ∃ p, e = .returned (.tuple #[.int .i64 0, .iface 81 (.pointer p)]) ∧ Below w1.heap.size w1 w'))
    (hzz : Hid (∀ a c' w1, Hid (Arg w1 a (n - o) (fun j => f (o + j))) → Calls Ybaf.prog 8 #[.slice a (n - o) c'] w1 fun e w' => e = .returned (.tuple #[.int .u64 0, .int .i64 0, .bool false]) ∧ w' = w1)) :
    Calls Ybaf.prog 3 #[.slice (some ⟨b, off, none⟩) n c, .int .u64 u, .string s, .int .u8 z] w fun e w' => e = .returned (.bool true) ∧ Below w.heap.size w w' := by
  have d1 : decide ((1048576 : Int) < (n : Int)) = false := decide_eq_false (by omega)
  have d2 : decide ((0 : Int) < (n : Int)) = true := decide_eq_true (by omega)
  obtain ⟨u0, u1⟩ := hu
  obtain ⟨z0, z1⟩ := hz
  go_enter Ybaf.func3, Ybaf.ntmps3
  go_wp2_with fail
  refine (clone_some b off n c f w hn hA.out).mono ?_
  rintro e w1 ⟨g, d, rfl, hg, hA1, hb1⟩
  have HA1 := hide hA1
  have HB1 := hide hb1
  have HD := hide (hA.out.below hb1 (Nat.le_refl _))
  clear hg hA1 hb1
  rw [hoff.out]
  go_wp2_with fail
  have R2 := hide (rF_new w1 (some ⟨b, off, none⟩) n c o)
  have B2 := hide ((Below.refl w1.heap.size w1).alloc (Nat.le_refl _) (Obj.cells #[.slice (some ⟨b, off, none⟩) n c, .int .i64 o] 27))
  have hgs : Hid (w.heap.size ≤ w1.heap.size) := hide HB1.out.size
  generalize hw2 : w1.alloc (Obj.cells #[.slice (some ⟨b, off, none⟩) n c, .int .i64 o] 27) = w2 at R2 B2 ⊢
  generalize hg1 : w1.heap.size = g1 at R2 B2 hgs ⊢
  refine (hcnt.out w2 g1 hgs.out R2.out (HD.out.below B2.out (Nat.le_of_eq hg1))).mono ?_
  rintro e w3 ⟨p, rfl, hb3⟩
  have R3 := hide (R2.out.below hb3 R2.out.lt)
  have B3 : Hid (Below g1 w1 w3) := hide (B2.out.trans (hb3.mono (Nat.le_of_lt R2.out.lt)))
  have BW : Hid (Below w.heap.size w w3) := hide (HB1.out.trans (B3.out.mono hgs.out))
  have D3 := hide (HD.out.below B3.out (Nat.le_of_eq hg1))
  have S3 := hide (HA1.out.below B3.out (Nat.le_of_eq hg1))
  have k0 : w3.cell? ⟨g1, 0, none⟩ = some (.slice (some ⟨b, off, none⟩) n c) := R3.out.cell (j := 0) (by omega)
  have k1 : w3.cell? ⟨g1, 1, none⟩ = some (.int .i64 o) := R3.out.cell (j := 1) (by omega)
  clear hb3 hw2 R2 B2 HB1 HA1 HD hg1
  go_wp2_with fail
  refine (equal_same _ _ n c d f w3 D3.out S3.out).mono ?_
  rintro e w4 ⟨rfl, rfl⟩
  have i1 : (o : Int) ≤ n := by omega
  have i2 : (o : Int) ≤ c := by omega
  have i3 : (n : Int) ≤ c := by omega
  go_wp2_with fail
  case inl =>
    refine (hzz.out _ _ _ (fun j hj => absurd hj (by omega))).mono ?_
    rintro e w5 ⟨rfl, rfl⟩
    go_wp2
    go_ret
    exact ⟨rfl, BW.out⟩
  case inr =>
    refine (hzz.out _ _ _ (arg_off D3.out)).mono ?_
    rintro e w5 ⟨rfl, rfl⟩
    go_wp2
    go_ret
    exact ⟨rfl, BW.out⟩

set_option maxRecDepth 100000 in
set_option maxHeartbeats 1000000 in
theorem law_great (b off n c o : Nat) (s : ByteArray) (u z : Int) (w : World) (f : Nat → Int) (hn : n ≤ 1048576) (hn0 : 0 < n) (hcap : n ≤ c) (ho : o ≤ n) (hoff : Hid (wrap64 (u % ((n : Int) + 1)) = (o : Int))) (hu : 0 ≤ u ∧ u ≤ 18446744073709551615) (hz : 0 ≤ z ∧ z ≤ 255) (hA : Hid (Arg w (some ⟨b, off, none⟩) n f)) (V : Int) (k : Nat) (hk : o + k < n) (hd : IntKind.u64.wrap (((n : Int) - ((o + k + 1 : Nat) : Int)) / (z + 1)) < V)
    (hcnt : Hid (∀ w1 g, w.heap.size ≤ g → RowF w1 g 27 2 (rF (some ⟨b, off, none⟩) n c o) → Arg w1 (some ⟨b, off, none⟩) n f → Calls Ybaf.prog 6 #[.pointer (some ⟨g, 0, none⟩), .string s, .int .i64 (z + 1)] w1 fun e w' => ∃ p, e = .returned (.tuple #[.int .i64 0, .iface 81 (.pointer p)]) ∧ RowF w' g 27 2 (rF (some ⟨b, off, none⟩) n c (o + k + 1)) ∧ Below g w1 w'))
    (hzz : Hid (∀ a c' w1, Hid (Arg w1 a (n - o) (fun j => f (o + j))) → Calls Ybaf.prog 8 #[.slice a (n - o) c'] w1 fun e w' => e = .returned (.tuple #[.int .u64 V, .int .i64 ((k : Int) + 1), .bool true]) ∧ w' = w1)) :
    Calls Ybaf.prog 3 #[.slice (some ⟨b, off, none⟩) n c, .int .u64 u, .string s, .int .u8 z] w fun e w' => e = .returned (.bool true) ∧ Below w.heap.size w w' := by
  have d1 : decide ((1048576 : Int) < (n : Int)) = false := decide_eq_false (by omega)
  have d2 : decide ((0 : Int) < (n : Int)) = true := decide_eq_true (by omega)
  obtain ⟨u0, u1⟩ := hu
  obtain ⟨z0, z1⟩ := hz
  go_enter Ybaf.func3, Ybaf.ntmps3
  go_wp2_with fail
  refine (clone_some b off n c f w hn hA.out).mono ?_
  rintro e w1 ⟨g, d, rfl, hg, hA1, hb1⟩
  have HA1 := hide hA1
  have HB1 := hide hb1
  have HD := hide (hA.out.below hb1 (Nat.le_refl _))
  clear hg hA1 hb1
  rw [hoff.out]
  go_wp2_with fail
  have R2 := hide (rF_new w1 (some ⟨b, off, none⟩) n c o)
  have B2 := hide ((Below.refl w1.heap.size w1).alloc (Nat.le_refl _) (Obj.cells #[.slice (some ⟨b, off, none⟩) n c, .int .i64 o] 27))
  have hgs : Hid (w.heap.size ≤ w1.heap.size) := hide HB1.out.size
  generalize hw2 : w1.alloc (Obj.cells #[.slice (some ⟨b, off, none⟩) n c, .int .i64 o] 27) = w2 at R2 B2 ⊢
  generalize hg1 : w1.heap.size = g1 at R2 B2 hgs ⊢
  refine (hcnt.out w2 g1 hgs.out R2.out (HD.out.below B2.out (Nat.le_of_eq hg1))).mono ?_
  rintro e w3 ⟨p, rfl, r3, hb3⟩
  have R3 := hide r3
  have B3 : Hid (Below g1 w1 w3) := hide (B2.out.trans hb3)
  have BW : Hid (Below w.heap.size w w3) := hide (HB1.out.trans (B3.out.mono hgs.out))
  have D3 := hide (HD.out.below B3.out (Nat.le_of_eq hg1))
  have S3 := hide (HA1.out.below B3.out (Nat.le_of_eq hg1))
  have k0 : w3.cell? ⟨g1, 0, none⟩ = some (.slice (some ⟨b, off, none⟩) n c) := R3.out.cell (j := 0) (by omega)
  have k1 : w3.cell? ⟨g1, 1, none⟩ = some (.int .i64 ((o + k + 1 : Nat) : Int)) := R3.out.cell (j := 1) (by omega)
  clear hb3 hw2 R2 B2 HB1 HA1 HD hg1
  go_wp2_with fail
  refine (equal_same _ _ n c d f w3 D3.out S3.out).mono ?_
  rintro e w4 ⟨rfl, rfl⟩
  have i1 : (o : Int) ≤ n := by omega
  have i2 : (o : Int) ≤ c := by omega
  have i3 : (n : Int) ≤ c := by omega
  have e1 : (n : Int) - o - ((k : Int) + 1) = (n : Int) - ((o + k + 1 : Nat) : Int) := by omega
  have e2 : (0 : Int) ≤ (n : Int) - ((o + k + 1 : Nat) : Int) := by omega
  have e3 : ((o : Int) + (k : Int) + 1 == (o : Int) + ((k : Int) + 1)) = true := by simp; omega
  have e4 : ((o + k + 1 : Nat) : Int) = (o : Int) + k + 1 := by omega
  rw [e4] at hd
  clear e4
  go_wp2_with fail
  refine (hzz.out _ _ _ (arg_off D3.out)).mono ?_
  rintro e w5 ⟨rfl, rfl⟩
  go_wp2
  go_ret
  exact ⟨rfl, BW.out⟩

set_option maxRecDepth 100000 in
set_option maxHeartbeats 1000000 in
theorem law_fine (b off n c o : Nat) (s : ByteArray) (u z : Int) (w : World) (f : Nat → Int) (hn : n ≤ 1048576) (hn0 : 0 < n) (hcap : n ≤ c) (ho : o ≤ n) (hoff : Hid (wrap64 (u % ((n : Int) + 1)) = (o : Int))) (hu : 0 ≤ u ∧ u ≤ 18446744073709551615) (hz : 0 ≤ z ∧ z ≤ 255) (hA : Hid (Arg w (some ⟨b, off, none⟩) n f)) (V : Int) (k : Nat) (hk : o + k < n) (hd : V ≤ IntKind.u64.wrap (((n : Int) - ((o + k + 1 : Nat) : Int)) / (z + 1)))
    (hcnt : Hid (∀ w1 g, w.heap.size ≤ g → RowF w1 g 27 2 (rF (some ⟨b, off, none⟩) n c o) → Arg w1 (some ⟨b, off, none⟩) n f → Calls Ybaf.prog 6 #[.pointer (some ⟨g, 0, none⟩), .string s, .int .i64 (z + 1)] w1 fun e w' => e = .returned (.tuple #[.int .i64 (wrap64 V), .nilIface]) ∧ RowF w' g 27 2 (rF (some ⟨b, off, none⟩) n c (o + k + 1)) ∧ Below g w1 w'))
    (hzz : Hid (∀ a c' w1, Hid (Arg w1 a (n - o) (fun j => f (o + j))) → Calls Ybaf.prog 8 #[.slice a (n - o) c'] w1 fun e w' => e = .returned (.tuple #[.int .u64 V, .int .i64 ((k : Int) + 1), .bool true]) ∧ w' = w1)) :
    Calls Ybaf.prog 3 #[.slice (some ⟨b, off, none⟩) n c, .int .u64 u, .string s, .int .u8 z] w fun e w' => e = .returned (.bool true) ∧ Below w.heap.size w w' := by
  have d1 : decide ((1048576 : Int) < (n : Int)) = false := decide_eq_false (by omega)
  have d2 : decide ((0 : Int) < (n : Int)) = true := decide_eq_true (by omega)
  obtain ⟨u0, u1⟩ := hu
  obtain ⟨z0, z1⟩ := hz
  go_enter Ybaf.func3, Ybaf.ntmps3
  go_wp2_with fail
  refine (clone_some b off n c f w hn hA.out).mono ?_
  rintro e w1 ⟨g, d, rfl, hg, hA1, hb1⟩
  have HA1 := hide hA1
  have HB1 := hide hb1
  have HD := hide (hA.out.below hb1 (Nat.le_refl _))
  clear hg hA1 hb1
  rw [hoff.out]
  go_wp2_with fail
  have R2 := hide (rF_new w1 (some ⟨b, off, none⟩) n c o)
  have B2 := hide ((Below.refl w1.heap.size w1).alloc (Nat.le_refl _) (Obj.cells #[.slice (some ⟨b, off, none⟩) n c, .int .i64 o] 27))
  have hgs : Hid (w.heap.size ≤ w1.heap.size) := hide HB1.out.size
  generalize hw2 : w1.alloc (Obj.cells #[.slice (some ⟨b, off, none⟩) n c, .int .i64 o] 27) = w2 at R2 B2 ⊢
  generalize hg1 : w1.heap.size = g1 at R2 B2 hgs ⊢
  refine (hcnt.out w2 g1 hgs.out R2.out (HD.out.below B2.out (Nat.le_of_eq hg1))).mono ?_
  rintro e w3 ⟨rfl, r3, hb3⟩
  have R3 := hide r3
  have B3 : Hid (Below g1 w1 w3) := hide (B2.out.trans hb3)
  have BW : Hid (Below w.heap.size w w3) := hide (HB1.out.trans (B3.out.mono hgs.out))
  have D3 := hide (HD.out.below B3.out (Nat.le_of_eq hg1))
  have S3 := hide (HA1.out.below B3.out (Nat.le_of_eq hg1))
  have k0 : w3.cell? ⟨g1, 0, none⟩ = some (.slice (some ⟨b, off, none⟩) n c) := R3.out.cell (j := 0) (by omega)
  have k1 : w3.cell? ⟨g1, 1, none⟩ = some (.int .i64 ((o + k + 1 : Nat) : Int)) := R3.out.cell (j := 1) (by omega)
  clear hb3 hw2 R2 B2 HB1 HA1 HD hg1
  go_wp2_with fail
  refine (equal_same _ _ n c d f w3 D3.out S3.out).mono ?_
  rintro e w4 ⟨rfl, rfl⟩
  have i1 : (o : Int) ≤ n := by omega
  have i2 : (o : Int) ≤ c := by omega
  have i3 : (n : Int) ≤ c := by omega
  have e1 : (n : Int) - o - ((k : Int) + 1) = (n : Int) - ((o + k + 1 : Nat) : Int) := by omega
  have e2 : (0 : Int) ≤ (n : Int) - ((o + k + 1 : Nat) : Int) := by omega
  have e3 : ((o : Int) + (k : Int) + 1 == (o : Int) + ((k : Int) + 1)) = true := by simp; omega
  have e4 : ((o + k + 1 : Nat) : Int) = (o : Int) + k + 1 := by omega
  rw [e4] at hd
  clear e4
  go_wp2_with fail
  refine (hzz.out _ _ _ (arg_off D3.out)).mono ?_
  rintro e w5 ⟨rfl, rfl⟩
  go_wp2
  go_ret
  exact ⟨rfl, BW.out⟩

end Go.Proofs.YbulkdttgFmt.lawS6025BWhole
