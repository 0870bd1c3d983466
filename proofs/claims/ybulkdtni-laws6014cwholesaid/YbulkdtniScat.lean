/-
  fromLinks' scatter: what its loop keeps.
-/
import Derived.Test.YbulkdtniPlain2
import Derived.Test.YbulkdtniIndex
namespace Go.Proofs.Ybulkdtni.lawS6014CWhole
open Go.RowKit Go.Proofs.Ybulkdtni.Own

structure Inv (W9 W : World) (ga gn k cn m : Nat) (tn : Nat → Value) (U V : Nat → Nat) (e : Nat) (A : Nat → Int) : Prop where
  but : But [ga, gn] W9 W
  adj : RowF W ga 21 (2 * m) (fun j => .int .i32 (A j))
  scat : Scat U V m e A
  next : 0 < k → RowF W gn 21 cn (fun j => if j < k then .int .i32 (cell3 U V m e j : Nat) else tn j)

variable {W9 W W' : World} {ga gn k cn m : Nat} {tn : Nat → Value} {U V : Nat → Nat} {e : Nat} {A : Nat → Int}

theorem Inv.below (h : Inv W9 W ga gn k cn m tn U V e A) (hb : Below W.heap.size W W') : Inv W9 W' ga gn k cn m tn U V e A :=
  ⟨h.but.new (But.below hb), h.adj.below hb h.adj.lt, h.scat, fun hk => (h.next hk).below hb (h.next hk).lt⟩
theorem Inv.alloc (h : Inv W9 W ga gn k cn m tn U V e A) (o : Obj) : Inv W9 (W.alloc o) ga gn k cn m tn U V e A :=
  ⟨h.but.new (But.alloc _ _), h.adj.alloc o, h.scat, fun hk => (h.next hk).alloc o⟩
theorem Inv.drew (h : Inv W9 W ga gn k cn m tn U V e A) : Inv W9 W.drew ga gn k cn m tn U V e A :=
  ⟨h.but.new (But.drew _), h.adj.drew, h.scat, fun hk => (h.next hk).drew⟩

/-- One half of a round. -/
theorem Inv.half (h : Inv W9 W ga gn k cn m tn U V e A) (he : e < 2 * m) (hne : ga ≠ gn) {p q s : Nat} (hp : node U V e = p) (hpk : p < k) (hq : node V U e = q) (hs : cell3 U V m e p = s) :
    ∃ A', Inv W9 ((W.setCell ⟨ga, s, none⟩ (.int .i32 (q : Int))).setCell ⟨gn, p, none⟩ (.int .i32 ((s : Int) + 1))) ga gn k cn m tn U V (e + 1) A' := by
  have hsl : slot U V m e = s := by rw [← hs, ← hp]; rfl
  refine ⟨fun j => if j = s then (q : Int) else A j, (h.but.step (But.setCell W ga s _) (fun y hy => by simp at hy; simp [hy])).step (But.setCell _ gn p _) (fun y hy => by simp at hy; simp [hy]), ?_, h.scat.step he ?_ ?_, fun hk => ?_⟩
  · refine RowF.other (a := ⟨gn, p, none⟩) (h.adj.store s _ (fun _ => ?_) (fun j _ hj => ?_)) hne _
    · simp
    · simp only [if_neg hj]
  · simp [hsl, hq]
  · intro j hj
    rw [hsl] at hj
    simp only [if_neg hj]
  · refine RowF.store (RowF.other (a := ⟨ga, s, none⟩) (h.next hk) (fun h => hne h.symm) _) p _ (fun _ => ?_) (fun j _ hj => ?_)
    · rw [if_pos hpk, ← hp, cell3_at, hp, hs]; simp
    · by_cases hjk : j < k
      · rw [if_pos hjk, if_pos hjk, cell3_step U V m e j (by rw [hp]; exact hj)]
      · rw [if_neg hjk, if_neg hjk]

/-- 'index' beside the scatter. -/
theorem idxI {lb B9 G gi : Nat} {x y : Int} {J : Array Int} {b c : Value} (R9 : RowF W9 B9 66 1 (fun _ => .pointer (some ⟨G, 0, none⟩))) (RG : RowF W9 G 76 3 (fun j => [.slice (some ⟨gi, 0, none⟩) k k, b, c].getD j undef)) (hArr : Arr W9 (some ⟨gi, 0, none⟩) k .u64 (fun j => J[j]!))
    (n9 : B9 ∉ [ga, gn]) (nG : G ∉ [ga, gn]) (ni : gi ∉ [ga, gn]) (hk : k ≤ 1048576) (z : Int) (p : Nat) (hp : p < k) (hlo : Hid (∀ t, t < p → J[t]! < z)) (hhi : Hid (∀ t, p ≤ t → t < k → z ≤ J[t]!)) (heq : J[p]! = z) (W : World)
    (hI : Hid (Inv W9 W ga gn k cn m tn U V e A ∧ W.cell? ⟨lb, 0, none⟩ = some (.int .u64 x) ∧ W.cell? ⟨lb, 1, none⟩ = some (.int .u64 y))) :
    Calls Yba.prog 17 #[.int .u64 z, .pointer (some ⟨B9, 0, none⟩)] W fun e' w' => e' = .returned (.int .i32 p) ∧ Hid (Inv W9 w' ga gn k cn m tn U V e A ∧ w'.cell? ⟨lb, 0, none⟩ = some (.int .u64 x) ∧ w'.cell? ⟨lb, 1, none⟩ = some (.int .u64 y)) := by
  obtain ⟨hI, h0, h1⟩ := hI.out
  have hA : Hid (Arr W (some ⟨gi, 0, none⟩) k .u64 (fun j => J[j]!)) := hide (fun j hj => by
    obtain ⟨b, off, e, hc⟩ := hArr j hj
    simp at e
    obtain ⟨rfl, rfl⟩ := e
    exact ⟨_, _, rfl, hI.but.cell hc ni⟩)
  refine (idx17 W B9 G k k (some ⟨gi, 0, none⟩) (fun j => J[j]!) z p ((RowF.but R9 hI.but n9).cell (j := 0) (by omega)) ((RowF.but RG hI.but nG).cell (j := 0) (by omega)) hA hk hp hlo hhi heq).mono ?_
  rintro e' w' ⟨rfl, hb⟩
  exact ⟨rfl, hide ⟨hI.below hb, cell_below h0 hb, cell_below h1 hb⟩⟩

/-- 'next', as append leaves it. -/
theorem next_shape {base : Nat} {v : Value} {E : Array Int} (hE : E.size = k) (h : Grow W base 21 .i32 v E) : ∃ (a : Option Addr) (gn cn : Nat) (tn : Nat → Value), v = .slice a k cn ∧ base ≤ gn ∧ k ≤ cn ∧ (0 < k → a = some ⟨gn, 0, none⟩ ∧ RowF W gn 21 cn (fun j => if j < k then .int .i32 E[j]! else tn j)) := by
  subst hE
  rcases h.cases with ⟨rfl, rfl⟩ | ⟨g, cap, tl, rfl, h1, h2, h3, h4⟩
  · exact ⟨none, base, 0, fun _ => undef, rfl, Nat.le_refl _, Nat.le_refl _, fun h => by simp at h⟩
  · exact ⟨_, g, cap, tl, rfl, h1, h2, fun _ => ⟨rfl, h4⟩⟩

end Go.Proofs.Ybulkdtni.lawS6014CWhole
