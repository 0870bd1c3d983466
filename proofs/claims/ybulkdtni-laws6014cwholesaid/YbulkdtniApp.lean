/-
  What the law's own walk leans on: rows of links, appends, the model's rows.
-/
import Derived.Test.YbulkdtniPre
import Derived.Test.YbulkdtniCompact
namespace Go.Proofs.Ybulkdtni.lawS6014CWhole
open Go.RowKit Go.Proofs.Ybulkdtni.Own
open Go.Sort (ltInt PermIn SortedIn)

theorem info65 : (Yba.prog.info? 65).map (fun i => (i.zero, i.size, i.bytes)) = some (some (.agg #[.int .u64 0, .int .u64 0]), 2, 16) := by kernel_rfl

/-- What is known of a slice of pairs. -/
def ArrP (w : World) (a : Option Addr) (n : Nat) (P : Nat → Int × Int) : Prop :=
  ∀ j, j < n → ∃ b off, a = some ⟨b, off, none⟩ ∧ b < w.heap.size ∧ w.cell? ⟨b, off + j * 2, none⟩ = some (.int .u64 (P j).1) ∧ w.cell? ⟨b, off + j * 2 + 1, none⟩ = some (.int .u64 (P j).2)

theorem ArrP.new {w w' : World} {a : Option Addr} {n : Nat} {P : Nat → Int × Int} (h : ArrP w a n P) (hb : But [] w w') : ArrP w' a n P := fun j hj => by
  obtain ⟨b, off, e, hl, h0, h1⟩ := h j hj
  exact ⟨b, off, e, Nat.lt_of_lt_of_le hl hb.size, hb.cell h0 (by simp), hb.cell h1 (by simp)⟩

theorem ArrP.but {w w' : World} {a : Option Addr} {n : Nat} {P : Nat → Int × Int} {xs : List Nat} (h : ArrP w a n P) (hb : But xs w w') (hx : ∀ b off, a = some ⟨b, off, none⟩ → b ∉ xs) : ArrP w' a n P := fun j hj => by
  obtain ⟨b, off, e, hl, h0, h1⟩ := h j hj
  exact ⟨b, off, e, Nat.lt_of_lt_of_le hl hb.size, hb.cell h0 (hx b off e), hb.cell h1 (hx b off e)⟩

theorem Arr.but {w w' : World} {a : Option Addr} {n : Nat} {k : IntKind} {f : Nat → Int} {xs : List Nat} (h : Arr w a n k f) (hb : But xs w w') (hx : ∀ b off, a = some ⟨b, off, none⟩ → b ∉ xs) : Arr w' a n k f := fun j hj => by
  obtain ⟨b, off, e, h0⟩ := h j hj
  exact ⟨b, off, e, hb.cell h0 (hx b off e)⟩

theorem Arr.congr {w : World} {a : Option Addr} {n : Nat} {k : IntKind} {f f' : Nat → Int} (h : Arr w a n k f) (hf : ∀ j, j < n → f' j = f j) : Arr w a n k f' := fun j hj => by
  obtain ⟨b, off, e, h0⟩ := h j hj
  exact ⟨b, off, e, by rw [hf j hj]; exact h0⟩

theorem GrowL.arr {w : World} {base : Nat} {v : Value} {D : Array (Int × Int)} (h : GrowL w base v D) : ∃ a cap, v = .slice a D.size cap ∧ ArrP w a D.size (fun j => D[j]!) ∧ (∀ b off, a = some ⟨b, off, none⟩ → base ≤ b) := by
  rcases h.cases with ⟨rfl, rfl⟩ | ⟨g, cap, tl, rfl, hb, hn, hm, hr⟩
  · exact ⟨none, 0, rfl, fun j hj => by simp at hj, fun b off h => by simp at h⟩
  · refine ⟨_, cap, rfl, fun j hj => ⟨g, 0, rfl, hr.lt, ?_, ?_⟩, fun b off h => ?_⟩
    · rw [Nat.zero_add]; exact hr.cell0 hj
    · rw [Nat.zero_add]; exact hr.cell1 hj
    · simp at h
      omega

/-- The frame of an append of links: its block is new to 'a'. -/
theorem GrowL.frame {a w w' : World} {base : Nat} {v : Value} {D : Array (Int × Int)} {xs : List Nat} (h : GrowL w base v D) (hg : w.grownBy w' v.ownBlock) (hb : a.heap.size ≤ base) (hf : But xs a w) : But xs a w' :=
  ⟨hg.os.trans hf.os, hg.tape.trans hf.tape, hg.output.trans hf.output, Nat.le_trans hf.size hg.size, fun b hb' hn => (hg.block b (Nat.lt_of_lt_of_le hb' hf.size) (fun c => by
    have := (h.lt c.symm).1
    omega)).trans (hf.block b hb' hn)⟩

/-- Rows of different types lie apart. -/
theorem Grow.apart {w : World} {base base' : Nat} {e e' : TypeId} {k k' : IntKind} {v v' : Value} {D D' : Array Int} (h : Grow w base e k v D) (h' : Grow w base' e' k' v' D') (hne : e ≠ e') : ∀ g, v.ownBlock = some g → v'.ownBlock ≠ some g := by
  intro g hg hg'
  rcases h'.cases with ⟨rfl, _⟩ | ⟨g', cap, tl, rfl, _, _, _, hr⟩
  · simp [Value.ownBlock] at hg'
  · exact h.ne hr hne g hg (by simp [Value.ownBlock] at hg'; exact hg'.symm)

theorem Grow.keepG {w w' : World} {base base' : Nat} {e e' : TypeId} {k k' : IntKind} {v v' : Value} {D D' : Array Int} (h : Grow w base e k v D) (hg : w.grownBy w' v.ownBlock) (h' : Grow w base' e' k' v' D') (hne : e ≠ e') : Grow w' base' e' k' v' D' := by
  cases hv : v.ownBlock with
  | none => rw [hv] at hg; exact h'.but (But.grown0 hg) (by simp)
  | some b => rw [hv] at hg; exact h'.but (But.grown hg) (fun g hg' => by simp; rintro rfl; exact h.apart h' hne _ hv hg')

/-- 'make([]link, 0, n)'. -/
theorem wpList_make_links {w : World} {ops : Array Oper} {rest : List Oper} {o : Oper} {a : Act} {Q : Exit → Act → World → Prop}
    (hg : o.guard = none) (l c : Operand) (hop : o.op = Op.makeSlice 61 l c) (kl kc : IntKind) (L C : Int) (n : Nat) (hl : a.eval l = .int kl L) (hc : a.eval c = .int kc C) (hL : L = 0) (hC : C = (n : Int)) (hn : n ≤ 1048576)
    (hK : ∀ g w', Hid (g = w.heap.size) → GrowL w' g (.slice (some ⟨g, 0, none⟩) 0 n) #[] → Below g w w' → wpList Yba.prog ops Q rest (a.put o.dst (.slice (some ⟨g, 0, none⟩) 0 n)) w') :
    wpList Yba.prog ops Q (o :: rest) a w := by
  obtain ⟨i, hi, hz0, hz1, hz2⟩ := info_parts info65
  refine wpList_plain hg fun K hK' => ?_
  have hr := run_make (P := Yba.prog) w 61 65 i _ Yba.underlying61 hi hz0 kl kc 0 n (by omega) (by omega) (by rw [hz2]; omega) (by omega)
  simp only [Int.toNat_natCast] at hr
  subst hL
  subst hC
  unfold Oper.wp
  simp [execOp, hop, hl, hc, hr, Result.andThen]
  refine hK' _ _ (hK w.heap.size _ rfl ?_ ((Below.refl _ _).alloc (Nat.le_refl _) _))
  refine ⟨by simp, .inr ⟨_, n, _, rfl, Nat.le_refl _, heap_alloc_new w _, Nat.zero_le _, by unfold maxLen; omega, by rw [size_madeCells, hz1], by simp⟩⟩

/-- append of one number, in its place. -/
theorem wpList_room {w : World} {ops : Array Oper} {rest : List Oper} {o : Oper} {a : Act} {Q : Exit → Act → World → Prop} (hgd : o.guard = none) (s x : Operand)
    (ho : o.op = .call { callee := .builtin .append, args := #[s, x], argTypes := #[71, 71] })
    (g n cap b : Nat) (z : Int) (f : Nat → Value) (hs : a.eval s = .slice (some ⟨g, 0, none⟩) n cap) (hr : RowF w g 21 cap f) (hn : n + 1 ≤ cap)
    (hx : a.eval x = .slice (some ⟨b, 0, none⟩) 1 1) (hz : w.cell? ⟨b, 0, none⟩ = some (.int .i32 z))
    (h : ∀ w', But [g] w w' → RowF w' g 21 cap (fun j => if j = n then .int .i32 z else f j) → wpList Yba.prog ops Q rest (a.put o.dst (.slice (some ⟨g, 0, none⟩) (n + 1) cap)) w') : wpList Yba.prog ops Q (o :: rest) a w := by
  obtain ⟨i, hi, hz0, hz1, hz2⟩ := info_parts info21
  obtain ⟨cs, hc, hcs, hf⟩ := hr
  refine wpList_plain hgd fun K hK => ?_
  have hrun := run_append_room (P := Yba.prog) w 71 o.type 21 i Yba.underlying71 hi g n cap cs hc ⟨b, 0, none⟩ 1 1 [.int .i32 z] (by rw [hz1]; rfl) (fun j u hu => by
    match j, hu with
    | 0, hu =>
      simp at hu
      subst hu
      rw [Addr.add_lit]
      exact hz) (fun u hu => by simp at hu; subst hu; rfl) hn (by rw [hz1]; simp; omega)
  rw [hz1] at hrun
  simp only [Nat.mul_one] at hrun
  unfold Oper.wp execOp
  simp only [ho, resolve, invoke, builtin, Sem.run_bind, Sem.run_pure, Result.andThen_ok, List.map_toArray, List.map_cons, List.map_nil, hs, hx, hrun]
  refine hK _ _ (h _ ⟨rfl, rfl, rfl, by simp, fun k _ hk => setRow_other w g k _ (fun e => hk (by simp [e]))⟩ ⟨_, setRow_heap w g cs _ 21 _ hc, ?_, fun j hj => ?_⟩)
  · simp only [List.size_toArray, List.length_append, List.length_take, List.length_drop, Array.length_toList, List.length_cons, List.length_nil]
    omega
  · have h0 := hf j hj
    simp only [List.getElem?_toArray]
    by_cases e : j = n
    · subst e
      rw [if_pos rfl, List.append_assoc, List.getElem?_append_right (by simp; omega)]
      simp only [List.length_take, Array.length_toList]
      rw [show j - min j cs.size = 0 by omega]
      rfl
    · rw [if_neg e, ← h0]
      rcases Nat.lt_or_ge j n with c | c
      · rw [List.append_assoc, List.getElem?_append_left (by simp; omega), List.getElem?_take, if_pos c, Array.getElem?_toList]
      · rw [List.getElem?_append_right (by simp; omega), List.getElem?_drop]
        simp only [List.length_append, List.length_take, Array.length_toList, List.length_cons, List.length_nil]
        rw [show n + (0 + 1) + (j - (min n cs.size + (0 + 1))) = j by omega, Array.getElem?_toList]

/-! Plain: the model's rows. -/

/-- One more node's part. -/
theorem Csr.push {i : Nat} {R : Nat → Int → Prop} {O : Nat → Nat} {A A' : Nat → Int} {e : Nat} (h : Csr i R O A) (he : O i ≤ e) (hA : ∀ t, t < O i → A' t = A t)
    (hs : ∀ s t, O i ≤ s → s < t → t < e → A' s < A' t) (hm : ∀ j, (∃ t, O i ≤ t ∧ t < e ∧ A' t = j) ↔ R i j) : Csr (i + 1) R (fun j => if j = i + 1 then e else O j) A' := by
  have hle : ∀ j, j ≤ i → O j ≤ O i := by
    intro j hj
    have key : ∀ q, j + q ≤ i → O j ≤ O (j + q) := by
      intro q
      induction q with
      | zero => intro _; exact Nat.le_refl _
      | succ q ih =>
        intro hq
        have := ih (by omega)
        have := h.mono (j + q) (by omega)
        rw [show j + q + 1 = j + (q + 1) by omega] at this
        omega
    have := key (i - j) (by omega)
    rw [show j + (i - j) = i by omega] at this
    exact this
  refine ⟨by simp only [if_neg (show ¬ 0 = i + 1 by omega)]; exact h.zero, fun j hj => ?_, fun j hj s t h1 h2 h3 => ?_, fun j hj x => ?_⟩
  · by_cases c : j = i
    · subst c; rw [if_neg (by omega), if_pos rfl]; exact he
    · rw [if_neg (by omega), if_neg (by omega)]; exact h.mono j (by omega)
  · by_cases c : j = i
    · subst c
      rw [if_neg (by omega)] at h1
      rw [if_pos rfl] at h3
      exact hs s t h1 h2 h3
    · rw [if_neg (by omega)] at h1 h3
      have := hle (j + 1) (by omega)
      rw [hA s (by omega), hA t (by omega)]
      exact h.strict j (by omega) s t h1 h2 h3
  · by_cases c : j = i
    · subst c
      rw [if_neg (by omega), if_pos rfl]
      exact hm x
    · rw [if_neg (by omega), if_neg (by omega), ← h.mem j (by omega) x]
      have := hle (j + 1) (by omega)
      constructor
      · rintro ⟨t, h1, h2, h3⟩; exact ⟨t, h1, h2, by rw [← hA t (by omega)]; exact h3⟩
      · rintro ⟨t, h1, h2, h3⟩; exact ⟨t, h1, h2, by rw [hA t (by omega)]; exact h3⟩

/-- The neighbours of an id, as the model's loop collects them. -/
def Nb (D : Array (Int × Int)) (id : Int) (k : Nat) (x : Int) : Prop := ∃ t, t < k ∧ ((D[t]!.1 = id ∧ D[t]!.2 = x) ∨ (D[t]!.2 = id ∧ D[t]!.1 = x))

/-- A part that holds the places of the neighbours, ascending. -/
theorem nb_seg {D : Array (Int × Int)} {I B : Array Int} {n i s0 r : Nat} {A : Nat → Int} (hI : ∀ s t, s < t → t < n → I[s]! < I[t]!)
    (hB : ∀ s t, s < t → t < r → ltInt B[s]! B[t]! = true) (hM : ∀ x, (∃ t, t < r ∧ B[t]! = x) ↔ Nb D I[i]! D.size x)
    (hA : ∀ t, t < r → ∃ p : Nat, p < n ∧ A (s0 + t) = (p : Int) ∧ I[p]! = B[t]!) :
    (∀ s t, s0 ≤ s → s < t → t < s0 + r → A s < A t) ∧ ∀ j, (∃ t, s0 ≤ t ∧ t < s0 + r ∧ A t = j) ↔ Rel D I n i j := by
  refine ⟨fun s t h1 h2 h3 => ?_, fun j => ?_⟩
  · obtain ⟨p, hp, ep, eIp⟩ := hA (s - s0) (by omega)
    obtain ⟨q, hq, eq, eIq⟩ := hA (t - s0) (by omega)
    rw [show s0 + (s - s0) = s by omega] at ep
    rw [show s0 + (t - s0) = t by omega] at eq
    have hlt := ltInt_true.1 (hB (s - s0) (t - s0) (by omega) (by omega))
    rw [← eIp, ← eIq] at hlt
    rw [ep, eq]
    rcases Nat.lt_trichotomy p q with c | c | c
    · omega
    · subst c; omega
    · have := hI q p c hp; omega
  · constructor
    · rintro ⟨t, h1, h2, h3⟩
      obtain ⟨p, hp, ep, eIp⟩ := hA (t - s0) (by omega)
      rw [show s0 + (t - s0) = t by omega] at ep
      obtain ⟨u, hu, h⟩ := (hM B[t - s0]!).1 ⟨t - s0, by omega, rfl⟩
      refine ⟨p, hp, by rw [← h3, ep], ?_⟩
      rcases h with ⟨e1, e2⟩ | ⟨e1, e2⟩
      · exact Or.inl (mem_iff.2 ⟨u, hu, Prod.ext e1 (by rw [e2, ← eIp])⟩)
      · exact Or.inr (mem_iff.2 ⟨u, hu, Prod.ext (by rw [e2, ← eIp]) e1⟩)
    · rintro ⟨p, hp, rfl, h⟩
      have : Nb D I[i]! D.size I[p]! := by
        rcases h with h | h
        · obtain ⟨u, hu, e⟩ := mem_iff.1 h
          exact ⟨u, hu, Or.inl ⟨by rw [e], by rw [e]⟩⟩
        · obtain ⟨u, hu, e⟩ := mem_iff.1 h
          exact ⟨u, hu, Or.inr ⟨by rw [e], by rw [e]⟩⟩
      obtain ⟨t, ht, e⟩ := (hM _).2 this
      obtain ⟨q, hq, eq, eIq⟩ := hA t ht
      refine ⟨s0 + t, by omega, by omega, ?_⟩
      rw [eq]
      rw [e] at eIq
      rcases Nat.lt_trichotomy q p with c | c | c
      · have := hI q p c hp; omega
      · rw [c]
      · have := hI p q c hq; omega

end Go.Proofs.Ybulkdtni.lawS6014CWhole
