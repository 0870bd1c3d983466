/-
  'Rows.LawS6017BWholeSaid' ('example.com/wending/wending.LawS6017BWhole'): the row's step, after the guide's own way (the shell of the seat's kin); the walks lie in YbulkdtoyWalks.lean.
-/
import Derived.Test.YbulkdtoyRows
import Derived.Test.YbulkdtoyWalks
import Derived.WalkKit
import Derived.ProofKit
import Derived.OpenShut
import Derived.ShutString
import Derived.ChangeOld
import Derived.Below
import Derived.Deep.Strs
import Derived.Deep.Grids
namespace Go.Proofs.Ybulkdtoy.lawS6017BWhole
open Go.ChangeShapes Go.WideShapes Go.ChangeAt Go.RowKit
open Go.ChangeMaps (open_string shut_string)
set_option linter.unusedVariables false

theorem own : ownKnob Yba.prog.godebug = none := by kernel_rfl
theorem laidOut : laidOutB Yba.prog = true := by kernel_rfl

/-- From cells at 'a.add i' to the walk's words. -/
theorem argV_of {w : World} {a : Addr} {m len : Nat} {f : Nat → Value} (hl : len ≤ m) (h : ∀ i, i < m → w.cell? (a.add i) = some (f i)) : ArgV w (some a) len f := by
  intro j hj
  have h0 := h j (by omega)
  have h1 := h 0 (by omega)
  have hsp : a.spot = none := by simpa [Addr.add] using World.cell?_spot h1
  obtain ⟨b, off, sp⟩ := a
  simp only at hsp
  subst hsp
  rw [Addr.add_lit] at h0
  exact ⟨b, off, rfl, World.block_lt_of_cell? w _ h0, h0⟩

theorem argV_nil {w : World} {f : Nat → Value} : ArgV w none 0 f := fun j hj => absurd hj (Nat.not_lt_zero _)

theorem walk (nr : Bool) (ak : Option Addr) (nk ck : Nat) (kf : Nat → ByteArray) (an : Option Addr) (nn cn : Nat) (nf : Nat → ByteArray) (al : Option Addr) (nl cl : Nat) (lf : Nat → Bool) (aty : Option Addr) (nt ct : Nat) (tf : Nat → Int) (key : ByteArray) (w : World)
    (htf : ∀ j, j < nt → 0 ≤ tf j ∧ tf j ≤ 255) (hK : ArgV w ak nk (fun j => .string (kf j))) (hN : ArgV w an nn (fun j => .string (nf j))) (hL : ArgV w al nl (fun j => .bool (lf j))) (hT : ArgV w aty nt (fun j => .int .u8 (tf j))) (hk0 : ak = none → nk = 0) :
    Calls Yba.prog 3 #[.bool nr, .slice ak nk ck, .slice an nn cn, .slice al nl cl, .slice aty nt ct, .string key] w fun e w' => e = .returned (.bool true) ∧ Below w.heap.size w w' := by
  by_cases hlong : 1048576 < nk
  · exact law_long nr ak nk ck an nn cn al nl cl aty nt ct key w hlong
  · refine law_core nr ak nk ck kf an nn cn nf al nl cl lf aty nt ct tf key w (by omega) htf hK hN hL hT _ rfl (fun h => hk0 ?_)
    cases ak with
    | none => rfl
    | some x => cases h

set_option maxRecDepth 100000 in
theorem lifted (os : Os) (started : os.Started) (H : Type) (enc : TypeId × Value → H) :
    ReturnsInHanded {} Yba.checked os 3 .any (Rows.lawS6017BWholeSpec.pre6 enc Yba.prog Yba.f3 Rows.lawS6017BWholeRow.domain false) (Rows.lawS6017BWholeSpec.post enc Yba.prog Yba.f3 false true false false) := by
  refine returnsInHanded_of_change (C := Yba.checked) own started (by kernel_rfl) Yba.func3
    (ChangeSpec.witness6 (enc := enc) (C := Yba.checked) false ⟨#[], #[.bool false, .slice none 0 0, .slice none 0 0, .slice none 0 0, .slice none 0 0, .string ⟨#[]⟩], []⟩ 8 (by kernel_rfl) (by kernel_rfl) (by kernel_rfl) (by kernel_rfl)) ?_
  intro W base args ds gs before hval0 hW hcnd _
  have hval : ∀ (j : Nat) t v, Yba.f3.params[j]? = some t → args[j]? = some v → Value.okWide Yba.prog W .any base t v := hval0
  have hW' := hW
  obtain ⟨p, q, hA0, hV, rfl, hfz, hnd⟩ := hW
  have hA : DataW.TrodAll enc Yba.prog W 0 (fun _ => true) true Yba.f3.params.toList args.toList ds p := hA0
  rw [Yba.params3] at hA hval
  obtain ⟨v0, vs0, d0, ds0, p0, q0, hargs, rfl, rfl, h0, r0⟩ := trodAll_cons hA
  obtain ⟨v1, vs1, d1, ds1, p1, q1, rfl, rfl, rfl, h1, r1⟩ := trodAll_cons r0
  obtain ⟨v2, vs2, d2, ds2, p2, q2, rfl, rfl, rfl, h2, r2⟩ := trodAll_cons r1
  obtain ⟨v3, vs3, d3, ds3, p3, q3, rfl, rfl, rfl, h3, r3⟩ := trodAll_cons r2
  obtain ⟨v4, vs4, d4, ds4, p4, q4, rfl, rfl, rfl, h4, r4⟩ := trodAll_cons r3
  obtain ⟨v5, vs5, d5, ds5, p5, q5, rfl, rfl, rfl, h5, r5⟩ := trodAll_cons r4
  obtain ⟨rfl, rfl, rfl⟩ := trodAll_nil r5
  obtain rfl : args = #[v0, v1, v2, v3, v4, v5] := by cases args; simp_all
  obtain ⟨rfl, rfl⟩ := trodVars_none hV
  obtain ⟨a0, rfl, rfl, rfl⟩ := open_bool Yba.underlying4 (hval 0 4 v0 rfl rfl) h0
  obtain ⟨a5, rfl, rfl, rfl, w5⟩ := open_string Yba.underlying9 (hval 5 9 v5 rfl rfl) h5
  obtain ⟨a1, len1, cap1, rfl⟩ := okWide_slice Yba.underlying22 (hval 1 22 v1 rfl rfl)
  obtain ⟨a2, len2, cap2, rfl⟩ := okWide_slice Yba.underlying22 (hval 2 22 v2 rfl rfl)
  obtain ⟨a3, len3, cap3, rfl⟩ := okWide_slice Yba.underlying23 (hval 3 23 v3 rfl rfl)
  obtain ⟨a4, len4, cap4, rfl⟩ := okWide_slice Yba.underlying24 (hval 4 24 v4 rfl rfl)
  have k1 := h1
  have k2 := h2
  have k3 := h3
  have k4 := h4
  have lt1 : ∀ x ∈ p1, x.block < W.heap.size := by obtain ⟨m, hm⟩ := k1; exact DataW.trod_lt m _ _ _ hm
  have lt2 : ∀ x ∈ p2, x.block < W.heap.size := by obtain ⟨m, hm⟩ := k2; exact DataW.trod_lt m _ _ _ hm
  have lt3 : ∀ x ∈ p3, x.block < W.heap.size := by obtain ⟨m, hm⟩ := k3; exact DataW.trod_lt m _ _ _ hm
  have lt4 : ∀ x ∈ p4, x.block < W.heap.size := by obtain ⟨m, hm⟩ := k4; exact DataW.trod_lt m _ _ _ hm
  obtain ⟨z1, w1, n1⟩ : ∃ f : Nat → ByteArray, ArgV W a1 len1 (fun j => .string (f j)) ∧ (a1 = none → len1 = 0) := by
    obtain ⟨fuel, hf⟩ := h1
    rcases Deep.open_strs Yba.underlying22 Yba.underlying9 (by kernel_rfl) hf with ⟨hcs, _⟩ | ⟨x, l, c, m, zs, hcs, _, hl, hm, hmm, _, hcell⟩
    · simp [Value.cells] at hcs
      obtain ⟨rfl, rfl, rfl⟩ := hcs
      exact ⟨fun _ => ⟨#[]⟩, argV_nil, fun _ => rfl⟩
    · simp [Value.cells] at hcs
      obtain ⟨rfl, rfl, rfl⟩ := hcs
      exact ⟨zs, argV_of (m := m) (by simp at hmm; omega) (fun i hi => (hcell i hi).1), fun h => by cases h⟩
  obtain ⟨z2, w2⟩ : ∃ f : Nat → ByteArray, ArgV W a2 len2 (fun j => .string (f j)) := by
    obtain ⟨fuel, hf⟩ := h2
    rcases Deep.open_strs Yba.underlying22 Yba.underlying9 (by kernel_rfl) hf with ⟨hcs, _⟩ | ⟨x, l, c, m, zs, hcs, _, hl, hm, hmm, _, hcell⟩
    · simp [Value.cells] at hcs
      obtain ⟨rfl, rfl, rfl⟩ := hcs
      exact ⟨fun _ => ⟨#[]⟩, argV_nil⟩
    · simp [Value.cells] at hcs
      obtain ⟨rfl, rfl, rfl⟩ := hcs
      exact ⟨zs, argV_of (m := m) (by simp at hmm; omega) (fun i hi => (hcell i hi).1)⟩
  obtain ⟨z3, w3⟩ : ∃ f : Nat → Bool, ArgV W a3 len3 (fun j => .bool (f j)) := by
    obtain ⟨fuel, hf⟩ := h3
    rcases Deep.open_bools Yba.underlying23 Yba.underlying4 (by kernel_rfl) hf with ⟨hcs, _⟩ | ⟨x, l, c, zs, hcs, _, hl, hm, _, hcell⟩
    · simp [Value.cells] at hcs
      obtain ⟨rfl, rfl, rfl⟩ := hcs
      exact ⟨fun _ => false, argV_nil⟩
    · simp [Value.cells] at hcs
      obtain ⟨rfl, rfl, rfl⟩ := hcs
      exact ⟨zs, argV_of hl hcell⟩
  obtain ⟨z4, w4, b4⟩ : ∃ f : Nat → Int, ArgV W a4 len4 (fun j => .int .u8 (f j)) ∧ ∀ j, j < len4 → 0 ≤ f j ∧ f j ≤ 255 := by
    obtain ⟨fuel, hf⟩ := h4
    rcases open_ints Yba.underlying24 Yba.underlying5 (by kernel_rfl) hf with ⟨hcs, _⟩ | ⟨x, l, c, zs, hcs, _, hl, hm, hz, _, hcell, hwz⟩
    · simp [Value.cells] at hcs
      obtain ⟨rfl, rfl, rfl⟩ := hcs
      exact ⟨fun _ => 0, argV_nil, fun j hj => absurd hj (Nat.not_lt_zero _)⟩
    · simp [Value.cells] at hcs
      obtain ⟨rfl, rfl, rfl⟩ := hcs
      have hzl : len4 ≤ zs.length := by simp at hz; omega
      refine ⟨fun j => zs.getD j 0, argV_of hzl hcell, fun j hj => ?_⟩
      have := hwz (zs.getD j 0) (by simp [List.getD, show j < zs.length by omega])
      exact bounds_u8 this
  clear hA0 hval0
  refine (walk a0 a1 len1 cap1 z1 a2 len2 cap2 z2 a3 len3 cap3 z3 a4 len4 cap4 z4 a5 W b4 w1 w2 w3 w4 n1).mono fun e W' ⟨he, bel⟩ => ?_
  subst he
  exact ⟨_, rfl, _, _, _, [], _, [], hW', trodAll_mk1 (shut_bool Yba.underlying4 _), (trodAll_cons_mk (shut_bool Yba.underlying4 _) (trodAll_cons_mk (Below.trod laidOut (by kernel_rfl) (of_decide_eq_true (by kernel_rfl)) k1 bel lt1) (trodAll_cons_mk (Below.trod laidOut (by kernel_rfl) (of_decide_eq_true (by kernel_rfl)) k2 bel lt2) (trodAll_cons_mk (Below.trod laidOut (by kernel_rfl) (of_decide_eq_true (by kernel_rfl)) k3 bel lt3) (trodAll_cons_mk (Below.trod laidOut (by kernel_rfl) (of_decide_eq_true (by kernel_rfl)) k4 bel lt4) (trodAll_cons_mk (shut_string Yba.underlying9 w5) trodAll_mk0)))))), rfl, bel.frame _, fun h => by cases h⟩

theorem over : Rows.lawS6017BWholeRow.holds Yba.pinned (OpenSpec.ofChange Rows.lawS6017BWholeSpec) :=
  OpenClaim.holds_of_wide 3 Yba.f3 rfl rfl rfl rfl rfl rfl rfl ⟨rfl, rfl, rfl, rfl, rfl⟩ rfl rfl rfl rfl rfl (by kernel_rfl) Yba.func3 (by kernel_rfl)
    (of_decide_eq_true (by kernel_rfl)) (by unfold Func.isWrapper; first | (rw [if_pos (by decide +kernel)]; kernel_rfl) | (rw [if_neg (by decide +kernel)]; exact ⟨rfl, rfl⟩))
    (fun os started H enc _ => lifted os started H enc)

theorem proved : Rows.LawS6017BWholeSaid := over
end Go.Proofs.Ybulkdtoy.lawS6017BWhole
