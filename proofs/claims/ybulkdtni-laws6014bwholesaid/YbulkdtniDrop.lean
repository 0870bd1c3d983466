import Derived.Test.YbulkdtniOwn
import Derived.Test.YbulkdtniRows
import Derived.WalkSpells
import Derived.Deep.QuietTactic
import Derived.BigQuiet
import Derived.Deep.DeepCutAuto
import Derived.Deep.CutBlock
import Derived.RegionTactic
import Derived.Laws.BytesArg
namespace Go.Proofs.Ybulkdtni.lawS6014BWhole
open Go.RowKit Go.Proofs.Ybulkdtni.Own

theorem info5 : (Yba.prog.info? 5).map (fun i => (i.zero, i.size, i.bytes)) = some (some (.int .u8 0), 1, 1) := by kernel_rfl
theorem info3 : (Yba.prog.info? 3).map (fun i => (i.zero, i.size, i.bytes)) = some (some (.int .i64 0), 1, 8) := by kernel_rfl
/-- 'drop' where no share is touched. -/
theorem drop_no (bv bq : Nat) (w : World) (am : Option Addr) (lm cm : Nat) (p : Int) (h6 : w.cell? ⟨bv, 11, none⟩ = some (.slice am lm cm)) (h8 : w.cell? ⟨bv, 13, none⟩ = some (.int .i64 p)) (f6 : w.frozen? ⟨bv, 11, none⟩ = false) (f8 : w.frozen? ⟨bv, 13, none⟩ = false) (hno : am = none ∨ p < 0) :
    Calls Yba.prog 5 #[.pointer (some ⟨bv, 0, none⟩), .pointer (some ⟨bq, 0, none⟩)] w fun e w' => e = .returned (.tuple #[]) ∧ (w.setCell ⟨bv, 11, none⟩ (.slice none 0 0)).setCell ⟨bv, 13, none⟩ (.int .i64 (-1)) = w' := by
  have hn := fun w => run_neq_slice_nil_any (P := Yba.prog) w 22 5 am lm cm 0 0 Yba.underlying22
  cases am with
  | none =>
    go_enter Yba.func5, Yba.ntmps5
    go_wp2
    go_end0
    exact ⟨rfl, rfl⟩
  | some x =>
    have hp : p < 0 := by simpa using hno
    clear hno
    go_enter Yba.func5, Yba.ntmps5
    go_wp2
    go_end0
    exact ⟨rfl, rfl⟩

/-- 'drop' where the payer's share is lowered. -/
theorem drop_yes (bv bq g : Nat) (w : World) (x : Addr) (lm cm n c k : Nat) (s : Int) (h6 : w.cell? ⟨bv, 11, none⟩ = some (.slice (some x) lm cm)) (h8 : w.cell? ⟨bv, 13, none⟩ = some (.int .i64 (k : Int))) (f6 : w.frozen? ⟨bv, 11, none⟩ = false) (f8 : w.frozen? ⟨bv, 13, none⟩ = false)
    (hq : w.cell? ⟨bq, 6, none⟩ = some (.slice (some ⟨g, 0, none⟩) n c)) (hs : w.cell? ⟨g, k, none⟩ = some (.int .i64 s)) (fs : w.frozen? ⟨g, k, none⟩ = false) (hk : k < n) (hne : bv ≠ g) :
    Calls Yba.prog 5 #[.pointer (some ⟨bv, 0, none⟩), .pointer (some ⟨bq, 0, none⟩)] w fun e w' => e = .returned (.tuple #[]) ∧ ((((w.setCell ⟨g, k, none⟩ (.int .i64 (wrap64 (s - lm)))).setCell ⟨bv, 11, none⟩ (.slice none 0 0)).setCell ⟨bv, 13, none⟩ (.int .i64 (-1))).drew) = w' := by
  have hn := fun w => run_neq_slice_nil_any (P := Yba.prog) w 22 5 (some x) lm cm 0 0 Yba.underlying22
  have i0 : (0 : Int) ≤ (k : Int) := by omega
  have i1 : (k : Int) < (n : Int) := by omega
  go_enter Yba.func5, Yba.ntmps5
  go_wp2
  go_region
  go_wp2
  go_end0
  exact ⟨rfl, rfl⟩

theorem fill_step {wr : World} {g len k : Nat} {e : TypeId} {f F : Nat → Value} (hR : RowF wr g e len (fun j => if j < k then f j else F j)) (u : Value) (hu : u = f k) :
    RowF (wr.setCell ⟨g, k, none⟩ u) g e len (fun j => if j < k + 1 then f j else F j) :=
  hR.store k u (fun _ => by simp [hu]) (fun j _ hj => by
    by_cases h : j < k
    · rw [if_pos h, if_pos (by omega)]
    · rw [if_neg h, if_neg (by omega)])

/-- What is known of a slice argument: its cells hold 'f j'; where it is nil it has no element. -/
def Arg (w : World) (a : Option Addr) (len : Nat) (k : IntKind) (f : Nat → Int) : Prop :=
  ∀ j, j < len → ∃ b off, a = some ⟨b, off, none⟩ ∧ b < w.heap.size ∧ w.cell? ⟨b, off + j, none⟩ = some (.int k (f j))

theorem Arg.at {w wr : World} {a : Option Addr} {len : Nat} {k : IntKind} {f : Nat → Int} (h : Arg w a len k f) (hb : Below w.heap.size w wr) {j : Nat} (hj : j < len) :
    ∃ b off, a = some ⟨b, off, none⟩ ∧ b < w.heap.size ∧ wr.cell? ⟨b, off + j, none⟩ = some (.int k (f j)) := by
  obtain ⟨b, off, ha, hl, hc⟩ := h j hj
  exact ⟨b, off, ha, hl, by rw [hb.cell (by exact hl)]; exact hc⟩


def PayOk (p : Int) (ls : Nat) (mb : Bool) : Prop := p < 0 ∨ (0 ≤ p ∧ p < ls) ∨ mb = false

/-- The call's own copy of the shares: nil where the argument is nil, else a row of its own behind block g1. -/
def OwnShare (w : World) (g1 : Nat) (qa : Option Addr) (ls : Nat) (f : Nat → Int) : Prop :=
  0 < ls → ∃ g2, qa = some ⟨g2, 0, none⟩ ∧ g1 < g2 ∧ RowF w g2 3 ls (fun j => .int .i64 (f j))

theorem OwnShare.of_blocks {w w' : World} {g1 : Nat} {qa : Option Addr} {ls : Nat} {f : Nat → Int} (h : OwnShare w g1 qa ls f) (hb : ∀ k, k < w.heap.size → w'.heap[k]? = w.heap[k]?) : OwnShare w' g1 qa ls f := by
  intro h0
  obtain ⟨g2, e, hl, hr⟩ := h h0
  exact ⟨g2, e, hl, hr.of_block (hb g2 hr.lt)⟩

/-- What the shares hold behind 'drop'. -/
def lowered (mb : Bool) (p : Int) (lm : Nat) (fs : Nat → Int) (j : Nat) : Int := if mb = true ∧ (j : Int) = p then wrap64 (fs j - lm) else fs j

theorem lowered_no {mb : Bool} {p : Int} {lm : Nat} {fs : Nat → Int} (h : mb = false ∨ p < 0) : lowered mb p lm fs = fs := by
  funext j
  unfold lowered
  rw [if_neg]
  rintro ⟨h1, h2⟩
  rcases h with h | h
  · rw [h] at h1; cases h1
  · omega

/-- The visit's cells behind 'drop'. -/
def dropped (fV : Nat → Value) (j : Nat) : Value := if j = 13 then .int .i64 (-1) else if j = 11 then .slice none 0 0 else fV j

theorem dropped_row {w : World} {bv : Nat} {fV : Nat → Value} (hV : RowF w bv 56 20 fV) : RowF ((w.setCell ⟨bv, 11, none⟩ (.slice none 0 0)).setCell ⟨bv, 13, none⟩ (.int .i64 (-1))) bv 56 20 (dropped fV) := by
  refine (hV.store 11 (.slice none 0 0) (f' := fun j => if j = 11 then .slice none 0 0 else fV j) (fun _ => if_pos rfl) (fun j _ hj => if_neg hj)).store 13 _ (fun _ => ?_) (fun j _ hj => ?_)
  · simp [dropped]
  · simp [dropped, hj]

theorem drop_all (bv bq g1 : Nat) (w : World) (am : Option Addr) (lm cm : Nat) (p : Int) (qa : Option Addr) (ls n1 : Nat) (fs : Nat → Int) (mb : Bool) (fV fQ f1 : Nat → Value)
    (hV : RowF w bv 56 20 fV) (hQ : RowF w bq 44 17 fQ) (e11 : fV 11 = .slice am lm cm) (e13 : fV 13 = .int .i64 p) (e6 : fQ 6 = .slice qa ls ls) (hmb : (!am.isNone) = mb) (hp : PayOk p ls mb) (hown : OwnShare w g1 qa ls fs)
    (h1 : RowF w g1 5 n1 f1) (hg : g1 ≤ bv) :
    Calls Yba.prog 5 #[.pointer (some ⟨bv, 0, none⟩), .pointer (some ⟨bq, 0, none⟩)] w fun e w' => e = .returned (.tuple #[]) ∧ RowF w' bv 56 20 (dropped fV) ∧ RowF w' bq 44 17 fQ ∧ RowF w' g1 5 n1 f1 ∧ OwnShare w' g1 qa ls (lowered mb p lm fs) ∧ Below g1 w w' := by
  have c11 := hV.cell (j := 11) (by omega)
  have c13 := hV.cell (j := 13) (by omega)
  have c6 := hQ.cell (j := 6) (by omega)
  rw [e11] at c11
  rw [e13] at c13
  rw [e6] at c6
  by_cases hno : am = none ∨ p < 0
  · refine (drop_no bv bq w am lm cm p c11 c13 (hV.frozen _) (hV.frozen _) hno).mono ?_
    rintro e w' ⟨rfl, rfl⟩
    have hl : lowered mb p lm fs = fs := lowered_no (by
      rcases hno with rfl | h
      · exact .inl (by rw [← hmb]; rfl)
      · exact .inr h)
    refine ⟨rfl, dropped_row hV, ?_, ?_, ?_, ?_⟩
    · exact (hQ.other (a := ⟨bv, 11, none⟩) (hQ.ne hV (by decide)) _).other (a := ⟨bv, 13, none⟩) (hQ.ne hV (by decide)) _
    · exact (h1.other (a := ⟨bv, 11, none⟩) (h1.ne hV (by decide)) _).other (a := ⟨bv, 13, none⟩) (h1.ne hV (by decide)) _
    · rw [hl]
      intro h0
      obtain ⟨g2, e, hlt, hr⟩ := hown h0
      exact ⟨g2, e, hlt, (hr.other (a := ⟨bv, 11, none⟩) (hr.ne hV (by decide)) _).other (a := ⟨bv, 13, none⟩) (hr.ne hV (by decide)) _⟩
    · exact ((Below.refl _ _).setCell hg _).setCell hg _
  · obtain ⟨x, rfl⟩ : ∃ x, am = some x := by
      cases am with
      | none => exact absurd (.inl rfl) hno
      | some x => exact ⟨x, rfl⟩
    have hmb' : mb = true := by rw [← hmb]; rfl
    have hp0 : 0 ≤ p := by
      rcases Int.lt_or_le p 0 with h | h
      · exact absurd (.inr h) hno
      · exact h
    have hpl : p < ls := by
      rcases hp with h | h | h
      · omega
      · exact h.2
      · rw [hmb'] at h; cases h
    obtain ⟨k, rfl⟩ := Int.eq_ofNat_of_zero_le hp0
    have hk : k < ls := by omega
    obtain ⟨g2, rfl, hlt, hr⟩ := hown (by omega)
    refine (drop_yes bv bq g2 w x lm cm ls ls k (fs k) c11 c13 (hV.frozen _) (hV.frozen _) c6 (hr.cell hk) (hr.frozen _) hk (fun e => hr.ne hV (by decide) e.symm)).mono ?_
    rintro e w' ⟨rfl, rfl⟩
    have hV2 : RowF (w.setCell ⟨g2, k, none⟩ (.int .i64 (wrap64 (fs k - lm)))) bv 56 20 fV := hV.other (hV.ne hr (by decide)) _
    have hQ2 : RowF (w.setCell ⟨g2, k, none⟩ (.int .i64 (wrap64 (fs k - lm)))) bq 44 17 fQ := hQ.other (hQ.ne hr (by decide)) _
    have h12 : RowF (w.setCell ⟨g2, k, none⟩ (.int .i64 (wrap64 (fs k - lm)))) g1 5 n1 f1 := h1.other (h1.ne hr (by decide)) _
    have hr2 : RowF (w.setCell ⟨g2, k, none⟩ (.int .i64 (wrap64 (fs k - lm)))) g2 3 ls (fun j => .int .i64 (lowered mb k lm fs j)) := by
      refine hr.store k _ (fun _ => ?_) (fun j _ hj => ?_)
      · simp [lowered, hmb']
      · simp only [lowered]
        rw [if_neg (by omega)]
    refine ⟨rfl, (dropped_row hV2).drew, ?_, ?_, ?_, ?_⟩
    · exact ((hQ2.other (a := ⟨bv, 11, none⟩) (hQ2.ne hV2 (by decide)) _).other (a := ⟨bv, 13, none⟩) (hQ2.ne hV2 (by decide)) _).drew
    · exact ((h12.other (a := ⟨bv, 11, none⟩) (h12.ne hV2 (by decide)) _).other (a := ⟨bv, 13, none⟩) (h12.ne hV2 (by decide)) _).drew
    · intro _
      exact ⟨g2, rfl, hlt, ((hr2.other (a := ⟨bv, 11, none⟩) (hr2.ne hV2 (by decide)) _).other (a := ⟨bv, 13, none⟩) (hr2.ne hV2 (by decide)) _).drew⟩
    · exact ((((Below.refl _ _).setCell (by simp; omega) _).setCell hg _).setCell hg _).drew

/-- 'string(b)' of a slice of bytes, nil or empty or not. -/
theorem convert_bytes {w : World} {a : Option Addr} {n : Nat} {f : Nat → Int} (c : Nat) (h : Arg w a n .u8 f) :
    (convert 22 9 (.slice a n c)).run Yba.prog w = .ok (.string (strOfNums ((List.range n).map f))) w := by
  rcases Nat.eq_zero_or_pos n with hn | hn
  · subst hn
    rw [run_convert_bytes_string w 22 9 5 _ 0 c Yba.underlying22 Yba.underlying5 Yba.underlying9]
    cases a <;> simp [Conv.bytesToString, loadCells]
    all_goals rfl
  · obtain ⟨b, off, rfl, _⟩ := h 0 hn
    refine run_convert_bytes_arg (P := Yba.prog) w 22 5 Yba.underlying22 Yba.underlying5 b off n c _ (by simp) (fun i hi => ?_) 9 Yba.underlying9
    obtain ⟨b', off', e, _, hc⟩ := h i hi
    simp at e
    rw [e.1, e.2, hc]
    simp [List.getD, hi]

theorem RowF.arg {w : World} {g n : Nat} {e : TypeId} {k : IntKind} {f : Nat → Int} (h : RowF w g e n (fun j => .int k (f j))) : Arg w (some ⟨g, 0, none⟩) n k f :=
  fun j hj => ⟨g, 0, rfl, h.lt, by rw [Nat.zero_add]; exact h.cell hj⟩

/-- bytes.Equal of two slices that hold the same bytes. -/
theorem equal_same (a b : Option Addr) (n c d : Nat) (f : Nat → Int) (w : World) (h1 : Arg w a n .u8 f) (h2 : Arg w b n .u8 f) :
    Calls Yba.prog 6 #[.slice a n c, .slice b n d] w fun e w' => e = .returned (.bool true) ∧ w' = w := by
  have k1 := convert_bytes c h1
  have k2 := convert_bytes d h2
  go_enter Yba.func6, Yba.ntmps6
  go_wp2
  go_ret
  exact ⟨by simp, rfl⟩

def qCells (qa : Option Addr) (ls : Nat) : List Value :=
  [.map none, .pointer none, .pointer none, .pointer none, .nilIface, .int .i64 0, .slice qa ls ls, .map none, .pointer none, .slice none 0 0, .slice none 0 0, .int .u32 0, .int .u64 0, .slice none 0 0, .int .u64 0, .slice none 0 0, .slice none 0 0]
def vCells (num tr pred at_ hops : Int) (am : Option Addr) (lm cm : Nat) (owner p : Int) (dl : Bool) : List Value :=
  [.int .u64 num, .int .i64 tr, .int .i32 pred, .int .i32 0, .slice none 0 0, .bool false, .bool false, .slice none 0 0, .slice none 0 0, .int .i64 at_, .int .i64 hops, .slice am lm cm, .int .i64 owner, .int .i64 p, .bool dl, .pointer none, .int .u64 0, .int .i64 0, .pointer none, .pointer none]

end Go.Proofs.Ybulkdtni.lawS6014BWhole
