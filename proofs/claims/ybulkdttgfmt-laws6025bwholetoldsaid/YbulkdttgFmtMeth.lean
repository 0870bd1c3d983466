/-
  (*formReader).uvarint and .count, case by case.
-/
import Derived.Test.YbulkdttgFmtVar
namespace Go.Proofs.YbulkdttgFmt.lawS6025BWhole
open Go.RowKit Go.Proofs.YbulkdttgFmt.Own

/-- The reader's two cells. -/
def rF (a : Option Addr) (len c o : Nat) (j : Nat) : Value := if j = 0 then .slice a len c else .int .i64 o

theorem arg_from {w : World} {b off len c o : Nat} {f : Nat → Int} (hA : Arg w (some ⟨b, off, none⟩) len f) (hc : len ≤ c) :
    Arg w (if c = o then some ⟨b, off, none⟩ else some ⟨b, off + o, none⟩) (len - o) (fun j => f (o + j)) := by
  intro j hj
  obtain ⟨b', off', e, hb, hcell⟩ := hA (o + j) (by omega)
  simp at e
  obtain ⟨rfl, rfl⟩ := e
  rw [if_neg (by omega)]
  exact ⟨_, _, rfl, hb, by rw [Nat.add_assoc]; exact hcell⟩

theorem Arg.drewN {w : World} {a : Option Addr} {len : Nat} {f : Nat → Int} (h : Arg w a len f) (q : Nat) : Arg (w.drewN q) a len f := h

/-- A call of binary.Uvarint on the bytes f o, f (o+1) .. answers V, N. -/
def Reads (len o : Nat) (f : Nat → Int) (V N : Int) : Prop :=
  ∀ a c w, Hid (Arg w a (len - o) (fun j => f (o + j))) → Calls Ybaf.prog 22 #[.slice a (len - o) c] w fun e w'' => e = .returned (.tuple #[.int .u64 V, .int .i64 N]) ∧ w'' = w


theorem new0 (w : World) (x y : Value) (t : TypeId) : (w.alloc (Obj.cells #[x, y] t)).cell? ⟨w.heap.size, 0, none⟩ = some x := by
  rw [cell_of_row _ _ _ _ _ _ (heap_alloc_new _ _)]; rfl
theorem new1 (w : World) (x y : Value) (t : TypeId) : (w.alloc (Obj.cells #[x, y] t)).cell? ⟨w.heap.size, 1, none⟩ = some y := by
  rw [cell_of_row _ _ _ _ _ _ (heap_alloc_new _ _)]; rfl

set_option maxHeartbeats 1000000 in
theorem uvar_A (g b off len c o : Nat) (s : ByteArray) (w : World) (f : Nat → Int) (ho : o ≤ len) (hR : RowF w g 27 2 (rF (some ⟨b, off, none⟩) len c o)) (hcap : len ≤ c) (hA : Hid (Arg w (some ⟨b, off, none⟩) len f)) (V : Int) (hcall : Hid (Reads len o f V 0)) :
    Calls Ybaf.prog 12 #[.pointer (some ⟨g, 0, none⟩), .string s] w fun e w' => ∃ p, e = .returned (.tuple #[.int .u64 0, .iface 81 (.pointer p)]) ∧ Below w.heap.size w w' := by
  have i0 : (0 : Int) ≤ o := by omega
  have i1 : (o : Int) ≤ len := by omega
  have i2 : (o : Int) ≤ c := by omega
  have i3 : (len : Int) ≤ c := by omega
  have h0 : w.cell? ⟨g, 0, none⟩ = some (.slice (some ⟨b, off, none⟩) len c) := hR.cell (j := 0) (by omega)
  have h1 : w.cell? ⟨g, 1, none⟩ = some (.int .i64 o) := hR.cell (j := 1) (by omega)
  have HR := hide hR
  clear hR
  go_enter Ybaf.func12, Ybaf.ntmps12
  go_wp2_with fail
  go_quiet ((go_at_call 22; refine Calls.quiet_of_same (hcall.out _ _ _ (arg_from hA.out hcap))))
  rename_i nq
  have k0 : (w.drewN nq).cell? ⟨g, 0, none⟩ = some (.slice (some ⟨b, off, none⟩) len c) := h0
  have k1 : (w.drewN nq).cell? ⟨g, 1, none⟩ = some (.int .i64 o) := h1
  have hB := hide (below_drewN (Below.refl w.heap.size w) nq)
  have hS : Hid ((w.drewN nq).heap.size = w.heap.size) := hide rfl
  have HR2 : Hid (RowF (w.drewN nq) g 27 2 (rF (some ⟨b, off, none⟩) len c o)) := HR
  have hA2 : Hid (Arg (w.drewN nq) (some ⟨b, off, none⟩) len f) := hA
  generalize hwy : w.drewN nq = wy at k0 k1 hB hS HR2 hA2 ⊢
  generalize (if c = o then (some ⟨b, off, none⟩ : Option Addr) else some ⟨b, off + o, none⟩) = a1
  clear h0 h1 HR hwy
  go_wp2_with fail
  refine (errorfA wy.heap.size s o _ (new0 _ _ _ _) (new1 _ _ _ _)).mono ?_
  rintro e w2 ⟨p, rfl, hb2⟩
  have hbb : Below w.heap.size w w2 := (hB.out.alloc (Nat.le_of_eq hS.out.symm) _).trans (hb2.mono (by simp [hS.out]))
  clear hb2
  go_wp2
  go_ret2
  exact ⟨p, rfl, hbb⟩

set_option maxHeartbeats 1000000 in
theorem uvar_B (g b off len c o : Nat) (s : ByteArray) (w : World) (f : Nat → Int) (ho : o ≤ len) (hR : RowF w g 27 2 (rF (some ⟨b, off, none⟩) len c o)) (hcap : len ≤ c) (hA : Hid (Arg w (some ⟨b, off, none⟩) len f)) (V N : Int) (hN : N < 0) (hcall : Hid (Reads len o f V N)) :
    Calls Ybaf.prog 12 #[.pointer (some ⟨g, 0, none⟩), .string s] w fun e w' => ∃ p, e = .returned (.tuple #[.int .u64 0, .iface 81 (.pointer p)]) ∧ Below w.heap.size w w' := by
  have i0 : (0 : Int) ≤ o := by omega
  have i1 : (o : Int) ≤ len := by omega
  have i2 : (o : Int) ≤ c := by omega
  have i3 : (len : Int) ≤ c := by omega
  have h0 : w.cell? ⟨g, 0, none⟩ = some (.slice (some ⟨b, off, none⟩) len c) := hR.cell (j := 0) (by omega)
  have h1 : w.cell? ⟨g, 1, none⟩ = some (.int .i64 o) := hR.cell (j := 1) (by omega)
  have HR := hide hR
  clear hR
  go_enter Ybaf.func12, Ybaf.ntmps12
  go_wp2_with fail
  go_quiet ((go_at_call 22; refine Calls.quiet_of_same (hcall.out _ _ _ (arg_from hA.out hcap))))
  rename_i nq
  have k0 : (w.drewN nq).cell? ⟨g, 0, none⟩ = some (.slice (some ⟨b, off, none⟩) len c) := h0
  have k1 : (w.drewN nq).cell? ⟨g, 1, none⟩ = some (.int .i64 o) := h1
  have hB := hide (below_drewN (Below.refl w.heap.size w) nq)
  have hS : Hid ((w.drewN nq).heap.size = w.heap.size) := hide rfl
  have HR2 : Hid (RowF (w.drewN nq) g 27 2 (rF (some ⟨b, off, none⟩) len c o)) := HR
  have hA2 : Hid (Arg (w.drewN nq) (some ⟨b, off, none⟩) len f) := hA
  generalize hwy : w.drewN nq = wy at k0 k1 hB hS HR2 hA2 ⊢
  generalize (if c = o then (some ⟨b, off, none⟩ : Option Addr) else some ⟨b, off + o, none⟩) = a1
  clear h0 h1 HR hwy
  have n0 : (N == 0) = false := by simpa using (by omega : ¬ N = 0)
  go_wp2_with fail
  refine (errorfB wy.heap.size s o _ (new0 _ _ _ _) (new1 _ _ _ _)).mono ?_
  rintro e w2 ⟨p, rfl, hb2⟩
  have hbb : Below w.heap.size w w2 := (hB.out.alloc (Nat.le_of_eq hS.out.symm) _).trans (hb2.mono (by simp [hS.out]))
  clear hb2
  go_wp2
  go_ret2
  exact ⟨p, rfl, hbb⟩

set_option maxHeartbeats 1000000 in
theorem uvar_C (g b off len c o : Nat) (s : ByteArray) (w : World) (f : Nat → Int) (hlen : len ≤ 1048576) (ho : o ≤ len) (hR : RowF w g 27 2 (rF (some ⟨b, off, none⟩) len c o)) (hcap : len ≤ c) (hA : Hid (Arg w (some ⟨b, off, none⟩) len f)) (V : Int) (k : Nat) (hk0 : 0 < k) (hk : o + k < len) (hz : f (o + k) = 0) (hcall : Hid (Reads len o f V ((k : Int) + 1))) :
    Calls Ybaf.prog 12 #[.pointer (some ⟨g, 0, none⟩), .string s] w fun e w' => ∃ p, e = .returned (.tuple #[.int .u64 0, .iface 81 (.pointer p)]) ∧ Below w.heap.size w w' := by
  have i0 : (0 : Int) ≤ o := by omega
  have i1 : (o : Int) ≤ len := by omega
  have i2 : (o : Int) ≤ c := by omega
  have i3 : (len : Int) ≤ c := by omega
  have h0 : w.cell? ⟨g, 0, none⟩ = some (.slice (some ⟨b, off, none⟩) len c) := hR.cell (j := 0) (by omega)
  have h1 : w.cell? ⟨g, 1, none⟩ = some (.int .i64 o) := hR.cell (j := 1) (by omega)
  have HR := hide hR
  clear hR
  go_enter Ybaf.func12, Ybaf.ntmps12
  go_wp2_with fail
  go_quiet ((go_at_call 22; refine Calls.quiet_of_same (hcall.out _ _ _ (arg_from hA.out hcap))))
  rename_i nq
  have k0 : (w.drewN nq).cell? ⟨g, 0, none⟩ = some (.slice (some ⟨b, off, none⟩) len c) := h0
  have k1 : (w.drewN nq).cell? ⟨g, 1, none⟩ = some (.int .i64 o) := h1
  have hB := hide (below_drewN (Below.refl w.heap.size w) nq)
  have hS : Hid ((w.drewN nq).heap.size = w.heap.size) := hide rfl
  have HR2 : Hid (RowF (w.drewN nq) g 27 2 (rF (some ⟨b, off, none⟩) len c o)) := HR
  have hA2 : Hid (Arg (w.drewN nq) (some ⟨b, off, none⟩) len f) := hA
  generalize hwy : w.drewN nq = wy at k0 k1 hB hS HR2 hA2 ⊢
  generalize (if c = o then (some ⟨b, off, none⟩ : Option Addr) else some ⟨b, off + o, none⟩) = a1
  clear h0 h1 HR hwy
  obtain ⟨b', off', e, hbw, hc⟩ := hA2.out (o + k) hk
  simp at e
  obtain ⟨rfl, rfl⟩ := e
  rw [hz] at hc
  have n0 : ((k : Int) + 1 == 0) = false := by simpa using (by omega : ¬ (k : Int) + 1 = 0)
  have i4 : (1 : Int) < (k : Int) + 1 := by omega
  have i5 : (0 : Int) ≤ (o : Int) + k := by omega
  have i6 : (o : Int) + k < len := by omega
  go_wp2_with fail
  go_quiet (fail)
  have m0 : (wy.drewN nq).cell? ⟨g, 0, none⟩ = some (.slice (some ⟨b, off, none⟩) len c) := k0
  have m1 : (wy.drewN nq).cell? ⟨g, 1, none⟩ = some (.int .i64 o) := k1
  have hB2 : Hid (Below w.heap.size w (wy.drewN nq)) := hide (below_drewN hB.out nq)
  have hS2 : Hid ((wy.drewN nq).heap.size = w.heap.size) := hS
  have HR3 : Hid (RowF (wy.drewN nq) g 27 2 (rF (some ⟨b, off, none⟩) len c o)) := HR2
  generalize hwz : wy.drewN nq = wz at m0 m1 hB2 hS2 HR3 ⊢
  clear k0 k1 hwz hB hS hc HR2 hA2
  go_wp2_with fail
  refine (errorfC wz.heap.size s o _ (new0 _ _ _ _) (new1 _ _ _ _)).mono ?_
  rintro e w2 ⟨p, rfl, hb2⟩
  have hbb : Below w.heap.size w w2 := (hB2.out.alloc (Nat.le_of_eq hS2.out.symm) _).trans (hb2.mono (by simp [hS2.out]))
  clear hb2
  go_wp2
  go_ret2
  exact ⟨p, rfl, hbb⟩

/-- The reader's cells behind a varint that it took. -/
theorem moved {w wz : World} {g : Nat} {a : Option Addr} {len c o : Nat} (hR : RowF wz g 27 2 (rF a len c o)) (hB : Below w.heap.size w wz) (hgw : g ≤ w.heap.size) (o' : Nat) (n : Int) (hn : n = (o' : Int)) :
    RowF (wz.setCell ⟨g, 1, none⟩ (.int .i64 n)) g 27 2 (rF a len c o') ∧ Below g w (wz.setCell ⟨g, 1, none⟩ (.int .i64 n)) := by
  subst hn
  refine ⟨hR.store 1 _ (fun _ => rfl) (fun j hj hne => ?_), (hB.mono hgw).setCell (Nat.le_refl _) _⟩
  have : j = 0 := by omega
  subst this
  rfl

set_option maxHeartbeats 1000000 in
theorem uvar_G (g b off len c o : Nat) (s : ByteArray) (w : World) (f : Nat → Int) (hlen : len ≤ 1048576) (ho : o ≤ len) (hR : RowF w g 27 2 (rF (some ⟨b, off, none⟩) len c o)) (hcap : len ≤ c) (hA : Hid (Arg w (some ⟨b, off, none⟩) len f)) (V : Int) (k : Nat) (hk0 : 0 < k) (hk : o + k < len) (hz : f (o + k) ≠ 0) (hcall : Hid (Reads len o f V ((k : Int) + 1))) :
    Calls Ybaf.prog 12 #[.pointer (some ⟨g, 0, none⟩), .string s] w fun e w' => e = .returned (.tuple #[.int .u64 V, .nilIface]) ∧ RowF w' g 27 2 (rF (some ⟨b, off, none⟩) len c (o + k + 1)) ∧ Below g w w' := by
  have i0 : (0 : Int) ≤ o := by omega
  have i1 : (o : Int) ≤ len := by omega
  have i2 : (o : Int) ≤ c := by omega
  have i3 : (len : Int) ≤ c := by omega
  have h0 : w.cell? ⟨g, 0, none⟩ = some (.slice (some ⟨b, off, none⟩) len c) := hR.cell (j := 0) (by omega)
  have h1 : w.cell? ⟨g, 1, none⟩ = some (.int .i64 o) := hR.cell (j := 1) (by omega)
  have HR := hide hR
  clear hR
  go_enter Ybaf.func12, Ybaf.ntmps12
  go_wp2_with fail
  go_quiet ((go_at_call 22; refine Calls.quiet_of_same (hcall.out _ _ _ (arg_from hA.out hcap))))
  rename_i nq
  have k0 : (w.drewN nq).cell? ⟨g, 0, none⟩ = some (.slice (some ⟨b, off, none⟩) len c) := h0
  have k1 : (w.drewN nq).cell? ⟨g, 1, none⟩ = some (.int .i64 o) := h1
  have hB := hide (below_drewN (Below.refl w.heap.size w) nq)
  have hS : Hid ((w.drewN nq).heap.size = w.heap.size) := hide rfl
  have HR2 : Hid (RowF (w.drewN nq) g 27 2 (rF (some ⟨b, off, none⟩) len c o)) := HR
  have hA2 : Hid (Arg (w.drewN nq) (some ⟨b, off, none⟩) len f) := hA
  generalize hwy : w.drewN nq = wy at k0 k1 hB hS HR2 hA2 ⊢
  generalize (if c = o then (some ⟨b, off, none⟩ : Option Addr) else some ⟨b, off + o, none⟩) = a1
  clear h0 h1 HR hwy
  obtain ⟨b', off', e, hbw, hc⟩ := hA2.out (o + k) hk
  simp at e
  obtain ⟨rfl, rfl⟩ := e
  have hfz : (f (o + k) == 0) = false := by simpa using hz
  have n0 : ((k : Int) + 1 == 0) = false := by simpa using (by omega : ¬ (k : Int) + 1 = 0)
  have i4 : (1 : Int) < (k : Int) + 1 := by omega
  have i5 : (0 : Int) ≤ (o : Int) + k := by omega
  have i6 : (o : Int) + k < len := by omega
  have hgw : Hid (g ≤ w.heap.size) := hide (by have := HR2.out.lt; have := hS.out; omega)
  go_wp2_with fail
  go_quiet (fail)
  have m0 : (wy.drewN nq).cell? ⟨g, 0, none⟩ = some (.slice (some ⟨b, off, none⟩) len c) := k0
  have m1 : (wy.drewN nq).cell? ⟨g, 1, none⟩ = some (.int .i64 o) := k1
  have hB2 : Hid (Below w.heap.size w (wy.drewN nq)) := hide (below_drewN hB.out nq)
  have hS2 : Hid ((wy.drewN nq).heap.size = w.heap.size) := hS
  have HR3 : Hid (RowF (wy.drewN nq) g 27 2 (rF (some ⟨b, off, none⟩) len c o)) := HR2
  generalize hwz : wy.drewN nq = wz at m0 m1 hB2 hS2 HR3 ⊢
  clear k0 k1 hwz hB hS hc HR2 hA2
  have fz := HR3.out.frozen 1
  go_wp2
  go_ret2
  exact ⟨rfl, moved HR3.out hB2.out hgw.out _ _ (by omega)⟩

set_option maxHeartbeats 1000000 in
theorem uvar_G0 (g b off len c o : Nat) (s : ByteArray) (w : World) (f : Nat → Int) (hlen : len ≤ 1048576) (hR : RowF w g 27 2 (rF (some ⟨b, off, none⟩) len c o)) (hcap : len ≤ c) (hA : Hid (Arg w (some ⟨b, off, none⟩) len f)) (V : Int) (hk : o < len) (hcall : Hid (Reads len o f V 1)) :
    Calls Ybaf.prog 12 #[.pointer (some ⟨g, 0, none⟩), .string s] w fun e w' => e = .returned (.tuple #[.int .u64 V, .nilIface]) ∧ RowF w' g 27 2 (rF (some ⟨b, off, none⟩) len c (o + 1)) ∧ Below g w w' := by
  have i0 : (0 : Int) ≤ o := by omega
  have i1 : (o : Int) ≤ len := by omega
  have i2 : (o : Int) ≤ c := by omega
  have i3 : (len : Int) ≤ c := by omega
  have h0 : w.cell? ⟨g, 0, none⟩ = some (.slice (some ⟨b, off, none⟩) len c) := hR.cell (j := 0) (by omega)
  have h1 : w.cell? ⟨g, 1, none⟩ = some (.int .i64 o) := hR.cell (j := 1) (by omega)
  have HR := hide hR
  clear hR
  go_enter Ybaf.func12, Ybaf.ntmps12
  go_wp2_with fail
  go_quiet ((go_at_call 22; refine Calls.quiet_of_same (hcall.out _ _ _ (arg_from hA.out hcap))))
  rename_i nq
  have k0 : (w.drewN nq).cell? ⟨g, 0, none⟩ = some (.slice (some ⟨b, off, none⟩) len c) := h0
  have k1 : (w.drewN nq).cell? ⟨g, 1, none⟩ = some (.int .i64 o) := h1
  have hB := hide (below_drewN (Below.refl w.heap.size w) nq)
  have hS : Hid ((w.drewN nq).heap.size = w.heap.size) := hide rfl
  have HR2 : Hid (RowF (w.drewN nq) g 27 2 (rF (some ⟨b, off, none⟩) len c o)) := HR
  have hA2 : Hid (Arg (w.drewN nq) (some ⟨b, off, none⟩) len f) := hA
  generalize hwy : w.drewN nq = wy at k0 k1 hB hS HR2 hA2 ⊢
  generalize (if c = o then (some ⟨b, off, none⟩ : Option Addr) else some ⟨b, off + o, none⟩) = a1
  clear h0 h1 HR hwy
  have hgw : Hid (g ≤ w.heap.size) := hide (by have := HR2.out.lt; have := hS.out; omega)
  go_wp2_with fail
  go_quiet (fail)
  have m0 : (wy.drewN nq).cell? ⟨g, 0, none⟩ = some (.slice (some ⟨b, off, none⟩) len c) := k0
  have m1 : (wy.drewN nq).cell? ⟨g, 1, none⟩ = some (.int .i64 o) := k1
  have hB2 : Hid (Below w.heap.size w (wy.drewN nq)) := hide (below_drewN hB.out nq)
  have hS2 : Hid ((wy.drewN nq).heap.size = w.heap.size) := hS
  have HR3 : Hid (RowF (wy.drewN nq) g 27 2 (rF (some ⟨b, off, none⟩) len c o)) := HR2
  generalize hwz : wy.drewN nq = wz at m0 m1 hB2 hS2 HR3 ⊢
  clear k0 k1 hwz hB hS HR2 hA2
  have fz := HR3.out.frozen 1
  go_wp2
  go_ret2
  exact ⟨rfl, moved HR3.out hB2.out hgw.out _ _ (by omega)⟩

end Go.Proofs.YbulkdttgFmt.lawS6025BWhole
