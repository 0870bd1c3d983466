/-
  The law where data holds no byte; and the whole.
-/
import Derived.Test.YbulkdttgFmtLawW
namespace Go.Proofs.YbulkdttgFmt.lawS6025BWhole
open Go.RowKit Go.Proofs.YbulkdttgFmt.Own

theorem zz_none (a : Option Addr) (c : Nat) (w : World) :
    Calls Ybaf.prog 8 #[.slice a 0 c] w fun e w' => e = .returned (.tuple #[.int .u64 0, .int .i64 0, .bool false]) ∧ w' = w :=
  zz_open a 0 c (fun _ => 0) w (by omega) (fun j hj => absurd hj (by omega)) (fun j hj => absurd hj (by omega)) (fun j hj => absurd hj (by omega))

theorem reads_none : Reads 0 0 (fun _ => 0) 0 0 := fun a c w _ =>
  uv_open a 0 c (fun _ => 0) w (by omega) (fun j hj => absurd hj (by omega)) (fun j hj => absurd hj (by omega)) (fun j hj => absurd hj (by omega))

theorem clone_x (x : Addr) (c : Nat) (w : World) :
    Calls Ybaf.prog 5 #[.slice (some x) 0 c] w fun e w' => ∃ g d, e = .returned (.slice (some ⟨g, 0, none⟩) 0 d) ∧ w.heap.size ≤ g ∧ Below w.heap.size w w' := by
  have hnil := fun w => Lib.run_eql_slice_nil (P := Ybaf.prog) w 22 5 (some x) 0 c 0 0 Ybaf.underlying22
  obtain ⟨i0, hi, hz0, hz1, hz2⟩ := info_parts info5
  have ho : (w.alloc (.cells #[] 5)).ownsRow w.heap.size 5 1 (.slice (some ⟨w.heap.size, 0, none⟩) 0 0) 0 [] := World.ownsRow_lit w #[] 0 (Nat.le_refl _) (by unfold maxLen; omega) rfl
  go_enter Ybaf.func5, Ybaf.ntmps5
  go_wp2_with (at_builtin; refine wpList_append_own _ rfl _ _ 22 rfl w.heap.size 5 i0 _ 1 1 Ybaf.underlying22 hi hz0 hz1 hz2 rfl (by decide) _ 0 [] rfl ho x 0 c (byteList (fun _ => 0) 0) rfl (by simp [byteList]) ?_ (byteList_one _ 0) (by unfold maxLen; omega) (by omega) (by simp) ?_)
  · intro j u hj
    obtain ⟨hjn, rfl⟩ := byteList_at hj
    omega
  intro v' w1 hown hgrow hnl
  obtain ⟨g, d, hv, hg, hr⟩ := byteList_row hown hnl
  rw [hv]
  clear hr
  go_wp2
  go_ret
  exact ⟨g, d, rfl, hg, ((Below.refl _ _).alloc (Nat.le_refl _) _).grown hgrow (by simp) (fun k hk => by simp [Value.ownBlock] at hk; omega)⟩

set_option maxRecDepth 100000 in
set_option maxHeartbeats 1000000 in
theorem law_n (s : ByteArray) (u z : Int) (w : World) (hz : 0 ≤ z ∧ z ≤ 255)
    (hcnt : Hid (∀ w1 g, RowF w1 g 27 2 (rF none 0 0 0) → Calls Ybaf.prog 6 #[.pointer (some ⟨g, 0, none⟩), .string s, .int .i64 (z + 1)] w1 fun e w' => ∃ p, e = .returned (.tuple #[.int .i64 0, .iface 81 (.pointer p)]) ∧ Below w1.heap.size w1 w')) :
    Calls Ybaf.prog 3 #[.slice none 0 0, .int .u64 u, .string s, .int .u8 z] w fun e w' => e = .returned (.bool true) ∧ Below w.heap.size w w' := by
  obtain ⟨z0, z1⟩ := hz
  go_enter Ybaf.func3, Ybaf.ntmps3
  go_wp2_with fail
  refine (clone_nil w).mono ?_
  rintro e w1 ⟨rfl, rfl⟩
  have HB1 := hide (Below.refl w1.heap.size w1)
  go_wp2_with fail
  have R2 := hide (rF_new w1 none 0 0 0)
  have B2 := hide ((Below.refl w1.heap.size w1).alloc (Nat.le_refl _) (Obj.cells #[.slice none 0 0, .int .i64 (0 : Nat)] 27))
  have hgs : Hid (w1.heap.size ≤ w1.heap.size) := hide HB1.out.size
  generalize hw2 : w1.alloc (Obj.cells #[.slice none 0 0, .int .i64 (0 : Nat)] 27) = w2 at R2 B2 ⊢
  generalize hg1 : w1.heap.size = g1 at R2 B2 hgs ⊢
  refine (hcnt.out w2 g1 R2.out).mono ?_
  rintro e w3 ⟨p, rfl, hb3⟩
  have R3 := hide (R2.out.below hb3 R2.out.lt)
  have B3 : Hid (Below g1 w1 w3) := hide (B2.out.trans (hb3.mono (Nat.le_of_lt R2.out.lt)))
  have BW : Hid (Below w1.heap.size w1 w3) := hide (HB1.out.trans (B3.out.mono (Nat.le_of_eq hg1)))
  have k0 : w3.cell? ⟨g1, 0, none⟩ = some (.slice none 0 0) := R3.out.cell (j := 0) (by omega)
  have k1 : w3.cell? ⟨g1, 1, none⟩ = some (.int .i64 0) := R3.out.cell (j := 1) (by omega)
  clear hb3 hw2 R2 B2 HB1 hg1
  go_wp2_with fail
  refine (equal_same _ _ 0 0 0 (fun _ => 0) w3 (fun j hj => absurd hj (by omega)) (fun j hj => absurd hj (by omega))).mono ?_
  rintro e w4 ⟨rfl, rfl⟩
  go_wp2_with fail
  refine (zz_none _ _ _).mono ?_
  rintro e w5 ⟨rfl, rfl⟩
  go_wp2
  go_ret
  exact ⟨rfl, BW.out⟩

set_option maxRecDepth 100000 in
set_option maxHeartbeats 1000000 in
theorem law_x (x : Addr) (c : Nat) (s : ByteArray) (u z : Int) (w : World) (hz : 0 ≤ z ∧ z ≤ 255)
    (hcnt : Hid (∀ w1 g, RowF w1 g 27 2 (rF (some x) 0 c 0) → Calls Ybaf.prog 6 #[.pointer (some ⟨g, 0, none⟩), .string s, .int .i64 (z + 1)] w1 fun e w' => ∃ p, e = .returned (.tuple #[.int .i64 0, .iface 81 (.pointer p)]) ∧ Below w1.heap.size w1 w')) :
    Calls Ybaf.prog 3 #[.slice (some x) 0 c, .int .u64 u, .string s, .int .u8 z] w fun e w' => e = .returned (.bool true) ∧ Below w.heap.size w w' := by
  obtain ⟨z0, z1⟩ := hz
  go_enter Ybaf.func3, Ybaf.ntmps3
  go_wp2_with fail
  refine (clone_x x c w).mono ?_
  rintro e w1 ⟨g, d, rfl, hg, hb1⟩
  have HB1 := hide hb1
  clear hg hb1
  go_wp2_with fail
  have R2 := hide (rF_new w1 (some x) 0 c 0)
  have B2 := hide ((Below.refl w1.heap.size w1).alloc (Nat.le_refl _) (Obj.cells #[.slice (some x) 0 c, .int .i64 (0 : Nat)] 27))
  have hgs : Hid (w.heap.size ≤ w1.heap.size) := hide HB1.out.size
  generalize hw2 : w1.alloc (Obj.cells #[.slice (some x) 0 c, .int .i64 (0 : Nat)] 27) = w2 at R2 B2 ⊢
  generalize hg1 : w1.heap.size = g1 at R2 B2 hgs ⊢
  refine (hcnt.out w2 g1 R2.out).mono ?_
  rintro e w3 ⟨p, rfl, hb3⟩
  have R3 := hide (R2.out.below hb3 R2.out.lt)
  have B3 : Hid (Below g1 w1 w3) := hide (B2.out.trans (hb3.mono (Nat.le_of_lt R2.out.lt)))
  have BW : Hid (Below w.heap.size w w3) := hide (HB1.out.trans (B3.out.mono hgs.out))
  have k0 : w3.cell? ⟨g1, 0, none⟩ = some (.slice (some x) 0 c) := R3.out.cell (j := 0) (by omega)
  have k1 : w3.cell? ⟨g1, 1, none⟩ = some (.int .i64 0) := R3.out.cell (j := 1) (by omega)
  clear hb3 hw2 R2 B2 HB1 hg1
  go_wp2_with fail
  refine (equal_same _ _ 0 c d (fun _ => 0) w3 (fun j hj => absurd hj (by omega)) (fun j hj => absurd hj (by omega))).mono ?_
  rintro e w4 ⟨rfl, rfl⟩
  go_wp2_with fail
  refine (zz_none _ _ _).mono ?_
  rintro e w5 ⟨rfl, rfl⟩
  go_wp2
  go_ret
  exact ⟨rfl, BW.out⟩

theorem law_long (a : Option Addr) (n c : Nat) (s : ByteArray) (u z : Int) (w : World) (h : 1048576 < n) :
    Calls Ybaf.prog 3 #[.slice a n c, .int .u64 u, .string s, .int .u8 z] w fun e w' => e = .returned (.bool true) ∧ Below w.heap.size w w' := by
  have hd : (1048576 : Int) < (n : Int) := by omega
  go_enter Ybaf.func3, Ybaf.ntmps3
  go_wp2
  go_ret
  exact ⟨rfl, Below.refl _ _⟩

/-- A varint that is well formed ends at byte k. -/
def Good (h : Nat → Int) (n k : Nat) : Prop := k < n ∧ k ≤ 9 ∧ h k < 128 ∧ (∀ j, j < k → 128 ≤ h j) ∧ (k = 9 → h k ≤ 1) ∧ (k = 0 ∨ h k ≠ 0)

/-- The bytes of the slice, from o on. -/
def from_ (f : Nat → Int) (o : Nat) (j : Nat) : Int := f (o + j)

theorem reads_of (f : Nat → Int) (n o : Nat) (V N : Int) (h : ∀ a c w, Hid (Arg w a (n - o) (from_ f o)) → Calls Ybaf.prog 22 #[.slice a (n - o) c] w fun e w'' => e = .returned (.tuple #[.int .u64 V, .int .i64 N]) ∧ w'' = w) : Reads n o f V N := h

theorem uvar_bad (g b off n c o : Nat) (s : ByteArray) (w : World) (f : Nat → Int) (hn : n ≤ 1048576) (ho : o ≤ n) (hcap : n ≤ c) (hb : ∀ j, j < n → 0 ≤ f j ∧ f j ≤ 255) (hno : ∀ k, ¬ Good (from_ f o) (n - o) k) (hR : RowF w g 27 2 (rF (some ⟨b, off, none⟩) n c o)) (hA : Arg w (some ⟨b, off, none⟩) n f) :
    Calls Ybaf.prog 12 #[.pointer (some ⟨g, 0, none⟩), .string s] w fun e w' => ∃ p, e = .returned (.tuple #[.int .u64 0, .iface 81 (.pointer p)]) ∧ Below w.heap.size w w' := by
  have hb' : ∀ j, j < n - o → 0 ≤ from_ f o j ∧ from_ f o j ≤ 255 := fun j hj => hb (o + j) (by omega)
  rcases ends_or_open (from_ f o) (n - o) with ⟨k, h1, h2, h3, h4⟩ | hop
  · by_cases h9 : k = 9 ∧ 1 < from_ f o k
    · obtain ⟨rfl, h9⟩ := h9
      exact uvar_B g b off n c o s w f ho hR hcap hA 0 (-10) (by omega) (reads_of f n o 0 (-10) fun a' c' w' hA' => uv_over a' (n - o) c' (from_ f o) w' (by omega) hb' hA' h1 h3 h4 h9)
    · by_cases hz : 0 < k ∧ from_ f o k = 0
      · exact uvar_C g b off n c o s w f hn ho hR hcap hA (val (from_ f o) k) k hz.1 (by omega) hz.2 (reads_of f n o _ _ fun a' c' w' hA' => uv_good a' (n - o) c' (from_ f o) w' k (by omega) hb' hA' h1 h2 h3 h4 (fun e => by omega))
      · exact absurd ⟨h1, h2, h3, h4, fun e => by omega, by omega⟩ (hno k)
  · by_cases hl : n - o ≤ 10
    · refine uvar_A g b off n c o s w f ho hR hcap hA 0 (reads_of f n o _ _ fun a' c' w' hA' => ?_)
      have := uv_open a' (n - o) c' (from_ f o) w' (by omega) hb' hA' hop
      rwa [if_pos hl] at this
    · refine uvar_B g b off n c o s w f ho hR hcap hA 0 (-11) (by omega) (reads_of f n o _ _ fun a' c' w' hA' => ?_)
      have := uv_open a' (n - o) c' (from_ f o) w' (by omega) hb' hA' hop
      rwa [if_neg hl] at this

theorem uvar_good (g b off n c o : Nat) (s : ByteArray) (w : World) (f : Nat → Int) (hn : n ≤ 1048576) (ho : o ≤ n) (hcap : n ≤ c) (hb : ∀ j, j < n → 0 ≤ f j ∧ f j ≤ 255) (k : Nat) (hk : Good (from_ f o) (n - o) k) (hR : RowF w g 27 2 (rF (some ⟨b, off, none⟩) n c o)) (hA : Arg w (some ⟨b, off, none⟩) n f) :
    Calls Ybaf.prog 12 #[.pointer (some ⟨g, 0, none⟩), .string s] w fun e w' => e = .returned (.tuple #[.int .u64 (val (from_ f o) k), .nilIface]) ∧ RowF w' g 27 2 (rF (some ⟨b, off, none⟩) n c (o + k + 1)) ∧ Below g w w' := by
  have hb' : ∀ j, j < n - o → 0 ≤ from_ f o j ∧ from_ f o j ≤ 255 := fun j hj => hb (o + j) (by omega)
  obtain ⟨h1, h2, h3, h4, h5, h6⟩ := hk
  have hr : Reads n o f (val (from_ f o) k) ((k : Int) + 1) := reads_of f n o _ _ fun a' c' w' hA' => uv_good a' (n - o) c' (from_ f o) w' k (by omega) hb' hA' h1 h2 h3 h4 h5
  by_cases h0 : k = 0
  · subst h0
    exact uvar_G0 g b off n c o s w f hn hR hcap hA _ (by omega) hr
  · exact uvar_G g b off n c o s w f hn ho hR hcap hA _ k (by omega) (by omega) (by rcases h6 with h | h; exact absurd h h0; exact h) hr

theorem zz_all_bad (n o : Nat) (f : Nat → Int) (hn : n ≤ 1048576) (hb : ∀ j, j < n → 0 ≤ f j ∧ f j ≤ 255) (hno : ∀ k, ¬ Good (from_ f o) (n - o) k) (a : Option Addr) (c : Nat) (w : World) (hA : Hid (Arg w a (n - o) (from_ f o))) :
    Calls Ybaf.prog 8 #[.slice a (n - o) c] w fun e w' => e = .returned (.tuple #[.int .u64 0, .int .i64 0, .bool false]) ∧ w' = w := by
  have hb' : ∀ j, j < n - o → 0 ≤ from_ f o j ∧ from_ f o j ≤ 255 := fun j hj => hb (o + j) (by omega)
  rcases ends_or_open (from_ f o) (n - o) with ⟨k, h1, h2, h3, h4⟩ | hop
  · refine zz_bad a (n - o) c (from_ f o) w k (by omega) hb' hA h1 h2 h3 h4 ?_
    by_cases h9 : k = 9 ∧ 1 < from_ f o k
    · exact .inl h9
    · by_cases hz : 0 < k ∧ from_ f o k = 0
      · exact .inr hz
      · exact absurd ⟨h1, h2, h3, h4, fun e => by omega, by omega⟩ (hno k)
  · exact zz_open a (n - o) c (from_ f o) w (by omega) hb' hA hop

/-- THE LAW, data with at least one byte. -/
theorem law_some (b off n c : Nat) (s : ByteArray) (u z : Int) (w : World) (f : Nat → Int) (hn : n ≤ 1048576) (hn0 : 0 < n) (hcap : n ≤ c) (hu : 0 ≤ u ∧ u ≤ 18446744073709551615) (hz : 0 ≤ z ∧ z ≤ 255) (hb : ∀ j, j < n → 0 ≤ f j ∧ f j ≤ 255) (hA : Arg w (some ⟨b, off, none⟩) n f) :
    Calls Ybaf.prog 3 #[.slice (some ⟨b, off, none⟩) n c, .int .u64 u, .string s, .int .u8 z] w fun e w' => e = .returned (.bool true) ∧ Below w.heap.size w w' := by
  obtain ⟨o, ho⟩ : ∃ o : Nat, u % ((n : Int) + 1) = (o : Int) := ⟨(u % ((n : Int) + 1)).toNat, by have := Int.emod_nonneg u (by omega : (n : Int) + 1 ≠ 0); omega⟩
  have hlt : (o : Int) < (n : Int) + 1 := by rw [← ho]; exact Int.emod_lt_of_pos u (by omega)
  have hoff : wrap64 (u % ((n : Int) + 1)) = (o : Int) := by rw [ho]; unfold wrap64; omega
  have hon : o ≤ n := by omega
  by_cases hg : ∃ k, Good (from_ f o) (n - o) k
  · obtain ⟨k, hk⟩ := hg
    have hkn : o + k < n := by have := hk.1; omega
    have hb' : ∀ j, j < n - o → 0 ≤ from_ f o j ∧ from_ f o j ≤ 255 := fun j hj => hb (o + j) (by omega)
    have hzz : ∀ a c' w1, Hid (Arg w1 a (n - o) (fun j => f (o + j))) → Calls Ybaf.prog 8 #[.slice a (n - o) c'] w1 fun e w' => e = .returned (.tuple #[.int .u64 (val (from_ f o) k), .int .i64 ((k : Int) + 1), .bool true]) ∧ w' = w1 :=
      fun a c' w1 hA' => zz_good a (n - o) c' (from_ f o) w1 k (by omega) hb' hA' hk.1 hk.2.1 hk.2.2.1 hk.2.2.2.1 hk.2.2.2.2.1 hk.2.2.2.2.2
    by_cases hd : IntKind.u64.wrap (((n : Int) - ((o + k + 1 : Nat) : Int)) / (z + 1)) < val (from_ f o) k
    · exact law_great b off n c o s u z w f hn hn0 hcap hon hoff hu hz hA (val (from_ f o) k) k hkn hd
        (fun w1 g _ hR hA1 => cnt_great g _ n c o (o + k + 1) s w1 hR (z + 1) (val (from_ f o) k) ⟨by omega, by omega⟩ (by omega) hn hd (uvar_good g b off n c o s w1 f hn hon hcap hb k hk hR hA1)) hzz
    · have hd' : val (from_ f o) k ≤ IntKind.u64.wrap (((n : Int) - ((o + k + 1 : Nat) : Int)) / (z + 1)) := Int.not_lt.1 hd
      exact law_fine b off n c o s u z w f hn hn0 hcap hon hoff hu hz hA (val (from_ f o) k) k hkn hd'
        (fun w1 g _ hR hA1 => cnt_fine g _ n c o (o + k + 1) s w1 hR (z + 1) (val (from_ f o) k) ⟨by omega, by omega⟩ (by omega) hn hd' (uvar_good g b off n c o s w1 f hn hon hcap hb k hk hR hA1)) hzz
  · have hno : ∀ k, ¬ Good (from_ f o) (n - o) k := fun k hk => hg ⟨k, hk⟩
    exact law_bad b off n c o s u z w f hn hn0 hcap hon hoff hu hz hA
      (fun w1 g _ hR hA1 => cnt_bad g _ n c o s w1 hR (z + 1) (uvar_bad g b off n c o s w1 f hn hon hcap hb hno hR hA1))
      (fun a c' w1 hA' => zz_all_bad n o f hn hb hno a c' w1 hA')

/-- THE LAW, data with no byte. -/
theorem law_empty (a : Option Addr) (c : Nat) (s : ByteArray) (u z : Int) (w : World) (hz : 0 ≤ z ∧ z ≤ 255) (hc : a = none → c = 0) :
    Calls Ybaf.prog 3 #[.slice a 0 c, .int .u64 u, .string s, .int .u8 z] w fun e w' => e = .returned (.bool true) ∧ Below w.heap.size w w' := by
  cases a with
  | none =>
    obtain rfl := hc rfl
    exact law_n s u z w hz (fun w1 g hR => cnt_bad g _ 0 0 0 s w1 hR (z + 1) (uvar_N g s w1 _ hR 0 reads_none))
  | some x => exact law_x x c s u z w hz (fun w1 g hR => cnt_bad g _ 0 c 0 s w1 hR (z + 1) (uvar_X g x c s w1 _ hR 0 reads_none))

end Go.Proofs.YbulkdttgFmt.lawS6025BWhole
