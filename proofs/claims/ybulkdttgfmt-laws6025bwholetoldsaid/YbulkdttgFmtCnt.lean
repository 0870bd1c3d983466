import Derived.Test.YbulkdttgFmtMeth
namespace Go.Proofs.YbulkdttgFmt.lawS6025BWhole
open Go.RowKit Go.Proofs.YbulkdttgFmt.Own

set_option maxHeartbeats 1000000 in
theorem uvar_N (g : Nat) (s : ByteArray) (w : World) (f : Nat → Int) (hR : RowF w g 27 2 (rF none 0 0 0)) (V : Int) (hcall : Hid (Reads 0 0 f V 0)) :
    Calls Ybaf.prog 12 #[.pointer (some ⟨g, 0, none⟩), .string s] w fun e w' => ∃ p, e = .returned (.tuple #[.int .u64 0, .iface 81 (.pointer p)]) ∧ Below w.heap.size w w' := by
  have h0 : w.cell? ⟨g, 0, none⟩ = some (.slice none 0 0) := hR.cell (j := 0) (by omega)
  have h1 : w.cell? ⟨g, 1, none⟩ = some (.int .i64 0) := hR.cell (j := 1) (by omega)
  have HR := hide hR
  clear hR
  go_enter Ybaf.func12, Ybaf.ntmps12
  go_wp2_with fail
  go_quiet ((go_at_call 22; refine Calls.quiet_of_same (hcall.out _ _ _ (fun j hj => absurd hj (by omega)))))
  rename_i nq
  have k1 : (w.drewN nq).cell? ⟨g, 1, none⟩ = some (.int .i64 0) := h1
  have hB := hide (below_drewN (Below.refl w.heap.size w) nq)
  have hS : Hid ((w.drewN nq).heap.size = w.heap.size) := hide rfl
  generalize hwy : w.drewN nq = wy at k1 hB hS ⊢
  clear h0 h1 HR hwy
  go_wp2_with fail
  refine (errorfA wy.heap.size s 0 _ (new0 _ _ _ _) (new1 _ _ _ _)).mono ?_
  rintro e w2 ⟨p, rfl, hb2⟩
  have hbb : Below w.heap.size w w2 := (hB.out.alloc (Nat.le_of_eq hS.out.symm) _).trans (hb2.mono (by simp [hS.out]))
  clear hb2
  go_wp2
  go_ret2
  exact ⟨p, rfl, hbb⟩

set_option maxHeartbeats 1000000 in
theorem cnt_bad (g : Nat) (a : Option Addr) (len c o : Nat) (s : ByteArray) (w : World) (hR : RowF w g 27 2 (rF a len c o)) (sz : Int)
    (hcall : Hid (Calls Ybaf.prog 12 #[.pointer (some ⟨g, 0, none⟩), .string s] w fun e w' => ∃ p, e = .returned (.tuple #[.int .u64 0, .iface 81 (.pointer p)]) ∧ Below w.heap.size w w')) :
    Calls Ybaf.prog 6 #[.pointer (some ⟨g, 0, none⟩), .string s, .int .i64 sz] w fun e w' => ∃ p, e = .returned (.tuple #[.int .i64 0, .iface 81 (.pointer p)]) ∧ Below w.heap.size w w' := by
  have h1 : w.cell? ⟨g, 1, none⟩ = some (.int .i64 o) := hR.cell (j := 1) (by omega)
  go_enter Ybaf.func6, Ybaf.ntmps6
  go_wp2_with fail
  refine hcall.out.mono ?_
  rintro e w2 ⟨p, rfl, hb⟩
  have hb' := hide hb
  clear hb h1 hcall hR
  go_wp2
  go_ret2
  exact ⟨p, rfl, hb'.out⟩

theorem new4 (w : World) (x y z u : Value) (t : TypeId) (j : Nat) (v : Value) (h : #[x, y, z, u][j]? = some v) : (w.alloc (Obj.cells #[x, y, z, u] t)).cell? ⟨w.heap.size, j, none⟩ = some v := by
  rw [cell_of_row _ _ _ _ _ _ (heap_alloc_new _ _)]; exact h

set_option maxHeartbeats 1000000 in
theorem cnt_fine (g : Nat) (a : Option Addr) (len c o o' : Nat) (s : ByteArray) (w : World) (hR : RowF w g 27 2 (rF a len c o)) (sz : Int) (V : Int) (hsz : 1 ≤ sz ∧ sz ≤ 256) (ho' : o' ≤ len) (hlen : len ≤ 1048576) (hd : V ≤ IntKind.u64.wrap (((len : Int) - (o' : Int)) / sz))
    (hcall : Hid (Calls Ybaf.prog 12 #[.pointer (some ⟨g, 0, none⟩), .string s] w fun e w' => e = .returned (.tuple #[.int .u64 V, .nilIface]) ∧ RowF w' g 27 2 (rF a len c o') ∧ Below g w w')) :
    Calls Ybaf.prog 6 #[.pointer (some ⟨g, 0, none⟩), .string s, .int .i64 sz] w fun e w' => e = .returned (.tuple #[.int .i64 (wrap64 V), .nilIface]) ∧ RowF w' g 27 2 (rF a len c o') ∧ Below g w w' := by
  have h1 : w.cell? ⟨g, 1, none⟩ = some (.int .i64 o) := hR.cell (j := 1) (by omega)
  obtain ⟨s1, s2⟩ := hsz
  have i1 : (0 : Int) ≤ (len : Int) - o' := by omega
  have i2 : (len : Int) - o' ≤ 1048576 := by omega
  go_enter Ybaf.func6, Ybaf.ntmps6
  go_wp2_with fail
  refine hcall.out.mono ?_
  rintro e w2 ⟨rfl, hR2, hb⟩
  have hb' := hide hb
  have HR2 := hide hR2
  have k0 : w2.cell? ⟨g, 0, none⟩ = some (.slice a len c) := hR2.cell (j := 0) (by omega)
  have k1 : w2.cell? ⟨g, 1, none⟩ = some (.int .i64 o') := hR2.cell (j := 1) (by omega)
  clear hb h1 hcall hR hR2
  go_wp2
  go_quiet (fail)
  go_wp2_with fail
  go_ret2
  exact ⟨rfl, HR2.out.drewN _, below_drewN hb'.out _⟩

set_option maxHeartbeats 1000000 in
theorem cnt_great (g : Nat) (a : Option Addr) (len c o o' : Nat) (s : ByteArray) (w : World) (hR : RowF w g 27 2 (rF a len c o)) (sz : Int) (V : Int) (hsz : 1 ≤ sz ∧ sz ≤ 256) (ho' : o' ≤ len) (hlen : len ≤ 1048576) (hd : IntKind.u64.wrap (((len : Int) - (o' : Int)) / sz) < V)
    (hcall : Hid (Calls Ybaf.prog 12 #[.pointer (some ⟨g, 0, none⟩), .string s] w fun e w' => e = .returned (.tuple #[.int .u64 V, .nilIface]) ∧ RowF w' g 27 2 (rF a len c o') ∧ Below g w w')) :
    Calls Ybaf.prog 6 #[.pointer (some ⟨g, 0, none⟩), .string s, .int .i64 sz] w fun e w' => ∃ p, e = .returned (.tuple #[.int .i64 0, .iface 81 (.pointer p)]) ∧ RowF w' g 27 2 (rF a len c o') ∧ Below g w w' := by
  have h1 : w.cell? ⟨g, 1, none⟩ = some (.int .i64 o) := hR.cell (j := 1) (by omega)
  obtain ⟨s1, s2⟩ := hsz
  have i1 : (0 : Int) ≤ (len : Int) - o' := by omega
  have i2 : (len : Int) - o' ≤ 1048576 := by omega
  go_enter Ybaf.func6, Ybaf.ntmps6
  go_wp2_with fail
  refine hcall.out.mono ?_
  rintro e w2 ⟨rfl, hR2, hb⟩
  have hb' := hide hb
  have HR2 := hide hR2
  have k0 : w2.cell? ⟨g, 0, none⟩ = some (.slice a len c) := hR2.cell (j := 0) (by omega)
  have k1 : w2.cell? ⟨g, 1, none⟩ = some (.int .i64 o') := hR2.cell (j := 1) (by omega)
  clear hb h1 hcall hR hR2
  go_wp2
  go_quiet (fail)
  have hgs : Hid (g < (w2.drewN nq).heap.size) := hide (HR2.out.drewN nq).lt
  have HR3 : Hid (RowF (w2.drewN nq) g 27 2 (rF a len c o')) := HR2
  have hb3 : Hid (Below g w (w2.drewN nq)) := hide (below_drewN hb'.out nq)
  generalize hwz : w2.drewN nq = wz at hgs HR3 hb3 ⊢
  clear k0 k1 hwz HR2 hb'
  go_wp2_with fail
  refine (errorfD wz.heap.size s V o ((len : Int) - o') _ (new4 _ _ _ _ _ _ 0 _ rfl) (new4 _ _ _ _ _ _ 1 _ rfl) (new4 _ _ _ _ _ _ 2 _ rfl) (new4 _ _ _ _ _ _ 3 _ rfl)).mono ?_
  rintro e w4 ⟨p, rfl, hb4⟩
  have hlt := hgs.out
  have HR4 : Hid (RowF w4 g 27 2 (rF a len c o')) := hide ((HR3.out.alloc _).below hb4 (by simp; omega))
  have hb5 : Hid (Below g w w4) := hide ((hb3.out.alloc (Nat.le_of_lt hlt) _).trans (hb4.mono (by simp; omega)))
  clear hb4 hlt
  go_wp2
  go_ret2
  exact ⟨p, rfl, HR4.out, hb5.out⟩

end Go.Proofs.YbulkdttgFmt.lawS6025BWhole
