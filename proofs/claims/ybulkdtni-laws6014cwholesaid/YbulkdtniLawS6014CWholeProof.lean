/-
  'Rows.LawS6014CWholeSaid' ('example.com/hedgerow/hedgerow/graph.LawS6014CWhole'): the argument opened, the row's step, after the guide's own way; the walk lies in YbulkdtniLawW.lean.
-/
import Derived.Test.YbulkdtniRows
import Derived.Test.YbulkdtniLawW
import Derived.WalkKit
import Derived.ProofKit
import Derived.OpenShut
import Derived.ShutString
import Derived.ChangeOld
import Derived.Below
import Derived.SizedLaws
import Derived.Deep.Strs
import Derived.ChangeSame
namespace Go.Proofs.Ybulkdtni.lawS6014CWhole
open Go.ChangeShapes Go.WideShapes Go.ChangeAt Go.RowKit
set_option linter.unusedVariables false

theorem own : ownKnob Yba.prog.godebug = none := by kernel_rfl
theorem laidOut : laidOutB Yba.prog = true := by kernel_rfl
theorem cells63 : Yba.prog.cellsOf 63 = 2 := by kernel_rfl
theorem cells24 : Yba.prog.cellsOf 24 = 1 := by kernel_rfl

/-- Cells at 'a.add (i * 2)', written out. -/
theorem two_cells {w : World} {a : Addr} {n : Nat} {c : Nat → Nat → Value} (h : ∀ i, i < n → ∀ j, j < 2 → w.cell? ((a.add (i * 2)).add j) = some (c i j)) (i : Nat) (hi : i < n) :
    ∃ b off, a = ⟨b, off, none⟩ ∧ b < w.heap.size ∧ w.cell? ⟨b, off + i * 2, none⟩ = some (c i 0) ∧ w.cell? ⟨b, off + i * 2 + 1, none⟩ = some (c i 1) := by
  have h00 := h 0 (by omega) 0 (by omega)
  have hsp : a.spot = none := by simpa [Addr.add] using World.cell?_spot h00
  obtain ⟨b, off, sp⟩ := a
  simp only at hsp
  subst hsp
  have h0 := h i hi 0 (by omega)
  have h1 := h i hi 1 (by omega)
  rw [Addr.add_lit, Addr.add_lit] at h0 h1
  exact ⟨b, off, rfl, World.block_lt_of_cell? w _ h0, h0, h1⟩

theorem len2 {l : List Value} (h : l.length = 2) : ∃ a b, l = [a, b] := by
  match l, h with
  | [a, b], _ => exact ⟨a, b, rfl⟩

/-- The pairs. -/
theorem open_pairs {H : Type} {enc : TypeId × Value → H} {w : World} {base : Nat} {spare : Nat → Bool} {held : Bool} {a : Option Addr} {l c fuel : Nat} {d : DataW H} {pl : List MemPlace} (h : DataW.trod enc Yba.prog w base spare held fuel 60 [.slice a l c] = some (d, pl)) :
    ∃ P : Nat → Int × Int, ArrP w a l P := by
  rcases Deep.open_slice Yba.underlying60 h with ⟨hcs, _⟩ | ⟨x, len, cap, m, n, D, Pl, hcs, hb, hl, hm, hmm, hx, hel⟩
  · simp at hcs
    obtain ⟨rfl, rfl, rfl⟩ := hcs
    exact ⟨fun _ => (0, 0), fun j hj => absurd hj (Nat.not_lt_zero _)⟩
  · simp at hcs
    obtain ⟨rfl, rfl, rfl⟩ := hcs
    have hlm : l ≤ m := by rw [hmm]; split <;> omega
    have each : ∀ i, i < l → ∃ r : Int × Int, ∀ j, j < 2 → w.cell? ((x.add (i * 2)).add j) = some ([Value.int .u64 r.1, .int .u64 r.2].getD j undef) := by
      intro i hi
      obtain ⟨cs', hc', ht⟩ := hel i (by omega)
      rw [cells63] at hc'
      obtain ⟨_, hlen, hcell⟩ := World.cells?_some hc'
      obtain ⟨y0, y1, n', _, _, t0, t1⟩ := trod_struct2 Yba.underlying63 ht
      obtain ⟨c0, c1, rfl⟩ := len2 hlen
      simp only [cells24, List.drop_zero, List.take_succ_cons, List.take_zero, List.drop_succ_cons] at t0 t1
      obtain ⟨z0, e0, _, _⟩ := DataW.trod_int Yba.underlying24 t0
      obtain ⟨z1, e1, _, _⟩ := DataW.trod_int Yba.underlying24 t1
      simp at e0 e1
      subst e0 e1
      refine ⟨(z0, z1), fun j hj => ?_⟩
      rw [hcell j hj]
      have : j = 0 ∨ j = 1 := by omega
      rcases this with rfl | rfl <;> rfl
    have : ∃ F : Nat → Int × Int, ∀ i, i < l → ∀ j, j < 2 → w.cell? ((x.add (i * 2)).add j) = some ([Value.int .u64 (F i).1, .int .u64 (F i).2].getD j undef) := by
      refine ⟨fun i => if hi : i < l then Classical.choose (each i hi) else (0, 0), fun i hi => ?_⟩
      simp only [dif_pos hi]
      exact Classical.choose_spec (each i hi)
    obtain ⟨F, hF⟩ := this
    refine ⟨F, fun j hj => ?_⟩
    obtain ⟨b, off, rfl, hbl, h0, h1⟩ := two_cells hF j hj
    exact ⟨b, off, rfl, hbl, h0, h1⟩

set_option maxRecDepth 100000 in
theorem lifted (os : Os) (started : os.Started) (H : Type) (enc : TypeId × Value → H) :
    ReturnsInHanded {} Yba.checked os 4 .any (Rows.lawS6014CWholeSpec.pre6 enc Yba.prog Yba.f4 Rows.lawS6014CWholeRow.domain false) (Rows.lawS6014CWholeSpec.post enc Yba.prog Yba.f4 false true false false) := by
  refine returnsInHanded_of_change_sized (C := Yba.checked) own started (by kernel_rfl) Yba.func4
    (ChangeSpec.witness6 (enc := enc) (C := Yba.checked) false ⟨#[], #[.slice none 0 0], []⟩ 8 (by kernel_rfl) (by kernel_rfl) (by kernel_rfl) (by kernel_rfl)) ?_
  intro W base args ds gs before hval0 hW hcnd hsz0 _
  have hval : ∀ (j : Nat) t v, Yba.f4.params[j]? = some t → args[j]? = some v → Value.okWide Yba.prog W .any base t v := hval0
  have hW' := hW
  obtain ⟨p, q, hA0, hV, rfl, hfz, hnd⟩ := hW
  have hA : DataW.TrodAll enc Yba.prog W 0 (fun _ => true) true Yba.f4.params.toList args.toList ds p := hA0
  rw [Yba.params4] at hA hval
  obtain ⟨v0, vs0, d0, ds0, p0, q0, hargs, rfl, rfl, h0, r0⟩ := trodAll_cons hA
  obtain ⟨rfl, rfl, rfl⟩ := trodAll_nil r0
  obtain rfl : args = #[v0] := by cases args; simp_all
  obtain ⟨rfl, rfl⟩ := trodVars_none hV
  obtain ⟨a0, len0, cap0, rfl⟩ := okWide_slice Yba.underlying60 (hval 0 60 v0 rfl rfl)
  have k0 := h0
  have lt0 : ∀ x ∈ p0, x.block < W.heap.size := by obtain ⟨m, hm⟩ := k0; exact DataW.trod_lt m _ _ _ hm
  obtain ⟨P, hP⟩ : ∃ P : Nat → Int × Int, ArrP W a0 len0 P := by
    obtain ⟨fuel, hf⟩ := h0
    exact open_pairs (pl := p0) (by simpa [Value.cells] using hf)
  clear hA0 hval0
  refine (law4 W a0 len0 cap0 P hP).mono fun e W' ⟨he, bel⟩ => ?_
  subst he
  exact ⟨_, rfl, _, _, _, [], _, [], hW', trodAll_mk1 (shut_bool Yba.underlying4 _), (trodAll_cons_mk (Below.trod laidOut (by kernel_rfl) (of_decide_eq_true (by kernel_rfl)) k0 bel lt0) trodAll_mk0), rfl, bel.frame _, fun h => by cases h⟩

theorem over : Rows.lawS6014CWholeRow.holds Yba.pinned (OpenSpec.ofChange Rows.lawS6014CWholeSpec) :=
  OpenClaim.holds_of_wide 4 Yba.f4 rfl rfl rfl rfl rfl rfl rfl ⟨rfl, rfl, rfl, rfl, rfl⟩ rfl rfl rfl rfl rfl (by kernel_rfl) Yba.func4 (by kernel_rfl)
    (of_decide_eq_true (by kernel_rfl)) (by unfold Func.isWrapper; first | (rw [if_pos (by decide +kernel)]; kernel_rfl) | (rw [if_neg (by decide +kernel)]; exact ⟨rfl, rfl⟩))
    (fun os started H enc _ => lifted os started H enc)

/-- The statement. -/
theorem proved : Rows.LawS6014CWholeSaid := over
end Go.Proofs.Ybulkdtni.lawS6014CWhole
