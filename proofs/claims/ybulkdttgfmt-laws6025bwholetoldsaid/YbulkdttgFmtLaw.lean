/-
  The law's own walk.
-/
import Derived.Test.YbulkdttgFmtCnt
import Derived.Maps.AppendAt
namespace Go.Proofs.YbulkdttgFmt.lawS6025BWhole
open Go.RowKit Go.Proofs.YbulkdttgFmt.Own

theorem info5 : (Ybaf.prog.info? 5).map (fun i => (i.zero, i.size, i.bytes)) = some (some (.int .u8 0), 1, 1) := by kernel_rfl

theorem convert_bytes {w : World} {a : Option Addr} {n : Nat} {f : Nat → Int} (c : Nat) (h : Arg w a n f) :
    (convert 22 9 (.slice a n c)).run Ybaf.prog w = .ok (.string (strOfNums ((List.range n).map f))) w := by
  rcases Nat.eq_zero_or_pos n with hn | hn
  · subst hn
    rw [run_convert_bytes_string w 22 9 5 _ 0 c Ybaf.underlying22 Ybaf.underlying5 Ybaf.underlying9]
    cases a <;> simp [Conv.bytesToString, loadCells]
    all_goals rfl
  · obtain ⟨b, off, rfl, _⟩ := h 0 hn
    refine run_convert_bytes_arg (P := Ybaf.prog) w 22 5 Ybaf.underlying22 Ybaf.underlying5 b off n c _ (by simp) (fun i hi => ?_) 9 Ybaf.underlying9
    obtain ⟨b', off', e, _, hc⟩ := h i hi
    simp at e
    rw [e.1, e.2, hc]
    simp [List.getD, hi]

/-- bytes.Equal of two slices that hold the same bytes. -/
theorem equal_same (a b : Option Addr) (n c d : Nat) (f : Nat → Int) (w : World) (h1 : Arg w a n f) (h2 : Arg w b n f) :
    Calls Ybaf.prog 7 #[.slice a n c, .slice b n d] w fun e w' => e = .returned (.bool true) ∧ w' = w := by
  have k1 := convert_bytes c h1
  have k2 := convert_bytes d h2
  go_enter Ybaf.func7, Ybaf.ntmps7
  go_wp2
  go_ret
  exact ⟨by simp, rfl⟩

theorem clone_nil (w : World) : Calls Ybaf.prog 5 #[.slice none 0 0] w fun e w' => e = .returned (.slice none 0 0) ∧ w' = w := by
  have hnil := fun w => Lib.run_eql_slice_nil (P := Ybaf.prog) w 22 5 none 0 0 0 0 Ybaf.underlying22
  go_enter Ybaf.func5, Ybaf.ntmps5
  go_wp2
  go_ret
  exact ⟨rfl, rfl⟩

def byteList (f : Nat → Int) (n : Nat) : List Value := (List.range n).map (fun j => .int .u8 (f j))

theorem byteList_at {f : Nat → Int} {n j : Nat} {u : Value} (h : (byteList f n)[j]? = some u) : j < n ∧ u = .int .u8 (f j) := by
  unfold byteList at h
  have hj : j < n := by simpa using (List.getElem?_eq_some_iff.1 h).1
  simp [hj] at h
  exact ⟨hj, h.symm⟩

theorem byteList_one (f : Nat → Int) (n : Nat) : ∀ u ∈ byteList f n, u.oneCell' = true := by
  intro u hu
  unfold byteList at hu
  obtain ⟨j, _, rfl⟩ := List.mem_map.1 hu
  rfl

theorem byteList_row {f : Nat → Int} {n : Nat} {w : World} {base : Nat} {v : Value} (h : w.ownsRow base 5 1 v n (byteList f n)) (hv : v ≠ .slice none 0 0) :
    ∃ g d, v = .slice (some ⟨g, 0, none⟩) n d ∧ base ≤ g ∧ Arg w (some ⟨g, 0, none⟩) n f := by
  rcases h.2 with ⟨e, _⟩ | ⟨g, cap, cur, e, hb, hg, hc, hm, hs, ht⟩
  · exact absurd e hv
  · refine ⟨g, cap, e, hb, fun j hj => ⟨g, 0, rfl, lt_of_block hg, ?_⟩⟩
    have h1 : (cur.toList.take (n * 1))[j]? = (byteList f n)[j]? := by rw [ht]
    rw [List.getElem?_take, if_pos (by omega), Array.getElem?_toList] at h1
    rw [Nat.zero_add, cell_of_row w g j cur 5 (0, 0) hg, h1]
    simp [byteList, hj]

theorem clone_some (b off n c : Nat) (f : Nat → Int) (w : World) (hn : n ≤ 1048576) (hA : Arg w (some ⟨b, off, none⟩) n f) :
    Calls Ybaf.prog 5 #[.slice (some ⟨b, off, none⟩) n c] w fun e w' => ∃ g d, e = .returned (.slice (some ⟨g, 0, none⟩) n d) ∧ w.heap.size ≤ g ∧ Arg w' (some ⟨g, 0, none⟩) n f ∧ Below w.heap.size w w' := by
  have hnil := fun w => Lib.run_eql_slice_nil (P := Ybaf.prog) w 22 5 (some ⟨b, off, none⟩) n c 0 0 Ybaf.underlying22
  obtain ⟨i0, hi, hz0, hz1, hz2⟩ := info_parts info5
  have ho : (w.alloc (.cells #[] 5)).ownsRow w.heap.size 5 1 (.slice (some ⟨w.heap.size, 0, none⟩) 0 0) 0 [] := World.ownsRow_lit w #[] 0 (Nat.le_refl _) (by unfold maxLen; omega) rfl
  have HA := hide hA
  clear hA
  go_enter Ybaf.func5, Ybaf.ntmps5
  go_wp2_with (at_builtin; refine wpList_append_own _ rfl _ _ 22 rfl w.heap.size 5 i0 _ 1 1 Ybaf.underlying22 hi hz0 hz1 hz2 rfl (by decide) _ 0 [] rfl ho ⟨b, off, none⟩ n c (byteList f n) rfl (by simp [byteList]) ?_ (byteList_one f n) (by unfold maxLen; omega) (by omega) (by simp) ?_)
  · intro j u hj
    obtain ⟨hjn, rfl⟩ := byteList_at hj
    obtain ⟨b', off', e, hb, hc⟩ := HA.out j hjn
    simp at e
    obtain ⟨rfl, rfl⟩ := e
    rw [Addr.add_lit, ((Below.refl w.heap.size w).alloc (Nat.le_refl _) _).cell hb]
    exact hc
  intro v' w1 hown hgrow hnl
  obtain ⟨g, d, hv, hg, hr⟩ := byteList_row hown hnl
  have HR := hide hr
  rw [hv]
  clear hr
  go_wp2
  go_ret
  exact ⟨g, d, rfl, hg, HR.out, ((Below.refl _ _).alloc (Nat.le_refl _) _).grown hgrow (by simp) (fun k hk => by simp [Value.ownBlock] at hk; omega)⟩

end Go.Proofs.YbulkdttgFmt.lawS6025BWhole
