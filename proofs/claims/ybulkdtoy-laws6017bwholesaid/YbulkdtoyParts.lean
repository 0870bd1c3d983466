/-
  LawS6017BWhole: the plain functions, and the contracts of its two callees.
-/
import Derived.Test.YbulkdtoyOwn
import Derived.Test.YbulkdtoyRows
import Derived.WalkSpells
import Derived.Deep.QuietTactic
import Derived.BigQuiet
import Derived.Deep.DeepCutAuto
import Derived.Deep.CutBlock
import Derived.RegionTactic
namespace Go.Proofs.Ybulkdtoy.lawS6017BWhole
open Go.RowKit Go.Proofs.Ybulkdtoy.Own

structure El where
  name : ByteArray
  typ : Option Addr
  list : Bool

def El.val (e : El) : Value := .agg #[.string e.name, .pointer e.typ, .bool e.list]

theorem info35 : (Yba.prog.info? 35).map (fun i => (i.zero, i.size, i.bytes)) = some (some (.agg #[.string ⟨#[]⟩, .pointer none, .bool false]), 3, 32) := by kernel_rfl
theorem zero35 (w : World) : (zeroValue 35).run Yba.prog w = .ok (.agg #[.string ⟨#[]⟩, .pointer none, .bool false]) w := by kernel_rfl

/-- What a map of elements holds, by key. -/
def MapE (w : World) (mv : Option Nat) (look : ByteArray → Option El) (n : Nat) : Prop :=
  match mv with
  | none => (∀ k, look k = none) ∧ n = 0
  | some r => MapF w r Value.string (fun k => (look k).map El.val) n

theorem isKey_str (k : ByteArray) : MapKept.IsKey .string (.string k) := trivial

def elZ : El := ⟨⟨#[]⟩, none, false⟩

theorem getD_val (o : Option El) : (o.map El.val).getD (El.val elZ) = (o.getD elZ).val := by cases o <;> rfl

theorem MapE.run_lookup {w : World} {mv : Option Nat} {look : ByteArray → Option El} {n : Nat} (h : MapE w mv look n) (k : ByteArray) :
    (Instr.lookup 27 (.map mv) (.string k) false).run Yba.prog w = .ok (((look k).getD elZ).val) w := by
  rw [← getD_val]
  cases mv with
  | none =>
    rw [h.1 k]
    exact run_lookup_nil Yba.underlying27 Yba.underlying9 (isKey_str k) (zero35 w) false
  | some r => exact MapF.run_lookup h Yba.underlying27 Yba.underlying9 isKey_str (zero35 w) k false

theorem MapE.run_lookup_ok {w : World} {mv : Option Nat} {look : ByteArray → Option El} {n : Nat} (h : MapE w mv look n) (k : ByteArray) :
    (Instr.lookup 27 (.map mv) (.string k) true).run Yba.prog w = .ok (.tuple #[((look k).getD elZ).val, .bool (look k).isSome]) w := by
  rw [← getD_val]
  cases mv with
  | none =>
    rw [h.1 k]
    exact run_lookup_nil Yba.underlying27 Yba.underlying9 (isKey_str k) (zero35 w) true
  | some r =>
    have := MapF.run_lookup h Yba.underlying27 Yba.underlying9 isKey_str (zero35 w) k true
    rw [if_pos rfl] at this
    refine this.trans ?_
    rw [Option.isSome_map]
    rfl

theorem MapE.of_blocks {w w' : World} {mv : Option Nat} {look : ByteArray → Option El} {n : Nat} (h : MapE w mv look n) (hb : ∀ r, r < w.heap.size → w'.heap[r]? = w.heap[r]?) : MapE w' mv look n := by
  cases mv with
  | none => exact h
  | some r => exact MapF.of_block h (hb r (MapF.lt h))

theorem MapE.run_len {w : World} {mv : Option Nat} {look : ByteArray → Option El} {n : Nat} (h : MapE w mv look n) (t : TypeId) : (Builtin.len_ #[27] t #[.map mv]).run Yba.prog w = .ok (goInt n) w := by
  cases mv with
  | none =>
    obtain ⟨_, rfl⟩ := h
    simp [Builtin.len_, run_underlying Yba.underlying27]
  | some r => exact MapF.run_len h Yba.underlying27 t

/-- The element type that a selector picks. -/
def pick (s : Int) (pa pb pc : Option Addr) : Option Addr := if s % 4 = 0 then none else if s % 4 = 1 then pa else if s % 4 = 2 then pb else pc

theorem typ_any (s : Int) (pa pb pc : Option Addr) (w : World) (h0 : 0 ≤ s) (h1 : s ≤ 255) :
    Calls Yba.prog 4 #[.int .u8 s, .pointer pa, .pointer pb, .pointer pc] w fun e w' => e = .returned (.pointer (pick s pa pb pc)) ∧ w' = w := by
  unfold pick
  by_cases c0 : s % 4 = 0
  · rw [if_pos c0]
    go_enter Yba.func4, Yba.ntmps4
    go_wp2
    go_ret
    exact ⟨rfl, rfl⟩
  rw [if_neg c0]
  by_cases c1 : s % 4 = 1
  · rw [if_pos c1]
    go_enter Yba.func4, Yba.ntmps4
    go_wp2
    go_ret
    exact ⟨rfl, rfl⟩
  rw [if_neg c1]
  by_cases c2 : s % 4 = 2
  · rw [if_pos c2]
    go_enter Yba.func4, Yba.ntmps4
    go_wp2
    go_ret
    exact ⟨rfl, rfl⟩
  rw [if_neg c2]
  go_enter Yba.func4, Yba.ntmps4
  go_wp2
  go_ret
  exact ⟨rfl, rfl⟩

theorem elem_nil (key : ByteArray) (w : World) :
    Calls Yba.prog 5 #[.pointer none, .string key] w fun e w' => e = .returned (El.val ⟨key, none, false⟩) ∧ Below w.heap.size w w' := by
  go_enter Yba.func5, Yba.ntmps5
  go_wp2
  exact bodyPost_ret (v := El.val ⟨key, none, false⟩) (by simp [results, Yba.results5, go_sem, El.val]) rfl ⟨rfl, (Below.refl _ _).alloc (Nat.le_refl _) _⟩

theorem elem_some (bt : Nat) (key : ByteArray) (mv : Option Nat) (look : ByteArray → Option El) (n : Nat) (w : World) (hT : w.cell? ⟨bt, 7, none⟩ = some (.map mv)) (hm : MapE w mv look n) :
    Calls Yba.prog 5 #[.pointer (some ⟨bt, 0, none⟩), .string key] w fun e w' => e = .returned (El.val ((look key).getD ⟨key, none, false⟩)) ∧ Below w.heap.size w w' := by
  have hlt := World.block_lt_of_cell? w _ hT
  have hm1 : MapE (w.alloc (.cells #[.string ⟨#[]⟩, .pointer none, .bool false] 35)) mv look n := hm.of_blocks (fun r hr => Below.heap_alloc _ _ _ hr)
  have hl := hm1.run_lookup_ok key
  have hne : bt ≠ w.heap.size := by simp at hlt; omega
  cases hk : look key with
  | none =>
    rw [hk] at hl
    simp only [Option.getD_none, Option.isSome_none, elZ, El.val] at hl
    clear hk
    go_enter Yba.func5, Yba.ntmps5
    go_wp2
    exact bodyPost_ret (v := El.val ⟨key, none, false⟩) (by simp [results, Yba.results5, go_sem, El.val]) rfl ⟨rfl, ((Below.refl _ _).alloc (Nat.le_refl _) _).alloc (by simp) _⟩
  | some el =>
    obtain ⟨nm, ty, li⟩ := el
    rw [hk] at hl
    simp only [Option.getD_some, Option.isSome_some, El.val] at hl
    clear hk
    go_enter Yba.func5, Yba.ntmps5
    go_wp2
    exact bodyPost_ret (v := El.val ⟨nm, ty, li⟩) (by simp [results, Yba.results5, go_sem, El.val]) rfl ⟨rfl, ((Below.refl _ _).alloc (Nat.le_refl _) _).alloc (by simp) _⟩

/-- What is known of a slice argument: its cells hold 'f j'. -/
def ArgV (w : World) (a : Option Addr) (len : Nat) (f : Nat → Value) : Prop :=
  ∀ j, j < len → ∃ b off, a = some ⟨b, off, none⟩ ∧ b < w.heap.size ∧ w.cell? ⟨b, off + j, none⟩ = some (f j)

theorem ArgV.at {w wr : World} {a : Option Addr} {len : Nat} {f : Nat → Value} (h : ArgV w a len f) (hb : Below w.heap.size w wr) {j : Nat} (hj : j < len) :
    ∃ b off, a = some ⟨b, off, none⟩ ∧ b < w.heap.size ∧ wr.cell? ⟨b, off + j, none⟩ = some (f j) := by
  obtain ⟨b, off, ha, hl, hc⟩ := h j hj
  exact ⟨b, off, ha, hl, by rw [hb.cell (by exact hl)]; exact hc⟩

/-- The cells of a row of elements. -/
def elCell (F : Nat → El) (j : Nat) : Value := if j % 3 = 0 then .string (F (j / 3)).name else if j % 3 = 1 then .pointer (F (j / 3)).typ else .bool (F (j / 3)).list

theorem elCell_0 (F : Nat → El) (k : Nat) : elCell F (k * 3) = .string (F k).name := by
  unfold elCell; rw [if_pos (by omega), show k * 3 / 3 = k by omega]
theorem elCell_1 (F : Nat → El) (k : Nat) : elCell F (k * 3 + 1) = .pointer (F k).typ := by
  unfold elCell; rw [if_neg (by omega), if_pos (by omega), show (k * 3 + 1) / 3 = k by omega]
theorem elCell_2 (F : Nat → El) (k : Nat) : elCell F (k * 3 + 2) = .bool (F k).list := by
  unfold elCell; rw [if_neg (by omega), if_neg (by omega), show (k * 3 + 2) / 3 = k by omega]

/-- A row of elements filled up to k: the rest are zero. -/
def upTo (F : Nat → El) (k : Nat) (j : Nat) : El := if j < k then F j else elZ

theorem row_start (F : Nat → El) (j : Nat) : elCell (upTo F 0) j = (Value.agg #[.string ⟨#[]⟩, .pointer none, .bool false]).cells[j % (Value.agg #[.string ⟨#[]⟩, .pointer none, .bool false]).cells.size]! := by
  have : j % 3 = 0 ∨ j % 3 = 1 ∨ j % 3 = 2 := by omega
  show elCell _ j = (#[Value.string ⟨#[]⟩, .pointer none, .bool false] : Array Value)[j % 3]!
  rcases this with h | h | h <;> simp [elCell, upTo, h, elZ]

/-- One element stored: its three cells. -/
theorem row_step {w : World} {g n k : Nat} {F : Nat → El} (h : RowF w g 35 (n * 3) (elCell (upTo F k))) {a : ByteArray} {b : Option Addr} {c : Bool} (e1 : a = (F k).name) (e2 : b = (F k).typ) (e3 : c = (F k).list) :
    RowF (((w.setCell ⟨g, k * 3, none⟩ (.string a)).setCell ⟨g, k * 3 + 1, none⟩ (.pointer b)).setCell ⟨g, k * 3 + 2, none⟩ (.bool c)) g 35 (n * 3) (elCell (upTo F (k + 1))) := by
  subst e1 e2 e3
  refine ((h.store (k * 3) _ (f' := fun j => if j = k * 3 then .string (F k).name else elCell (upTo F k) j) (fun _ => if_pos rfl) (fun j _ hj => if_neg hj)).store (k * 3 + 1) _ (f' := fun j => if j = k * 3 + 1 then .pointer (F k).typ else if j = k * 3 then .string (F k).name else elCell (upTo F k) j) (fun _ => if_pos rfl) (fun j _ hj => if_neg hj)).store (k * 3 + 2) _ (fun _ => ?_) (fun j _ hj => ?_)
  · rw [elCell_2]; simp [upTo]
  · by_cases h1 : j = k * 3 + 1
    · subst h1
      rw [if_pos rfl, elCell_1]; simp [upTo]
    · rw [if_neg h1]
      by_cases h0 : j = k * 3
      · subst h0
        rw [if_pos rfl, elCell_0]; simp [upTo]
      · rw [if_neg h0]
        have : upTo F (k + 1) (j / 3) = upTo F k (j / 3) := by
          unfold upTo
          by_cases hlt : j / 3 < k
          · rw [if_pos hlt, if_pos (by omega)]
          · rw [if_neg hlt, if_neg (by omega)]
        unfold elCell
        rw [this]

theorem upTo_all {F : Nat → El} {n : Nat} {w : World} {g : Nat} (h : RowF w g 35 (n * 3) (elCell (upTo F n))) : RowF w g 35 (n * 3) (elCell F) := by
  refine h.congr (fun j hj => ?_)
  have : upTo F n (j / 3) = F (j / 3) := if_pos (by omega)
  unfold elCell
  rw [this]

/-- The elements that the law lays, by index. -/
def elsF (pa pb pc : Option Addr) (nn : Nat) (nf kf : Nat → ByteArray) (nt : Nat) (tf : Nat → Int) (nl : Nat) (lf : Nat → Bool) (j : Nat) : El :=
  ⟨if j < nn then nf j else kf j, pick (if j < nt then tf j else 0) pa pb pc, if j < nl then lf j else false⟩

/-- The map after the first n stores. -/
def lookTo (kf : Nat → ByteArray) (F : Nat → El) : Nat → ByteArray → Option El
  | 0, _ => none
  | n + 1, x => if x = kf n then some (F n) else lookTo kf F n x

theorem lookTo_skip (kf : Nat → ByteArray) (F : Nat → El) (key : ByteArray) (i : Nat) : ∀ n, i ≤ n → (∀ j, i ≤ j → j < n → kf j ≠ key) → lookTo kf F n key = lookTo kf F i key
  | 0, h, _ => by have : i = 0 := by omega
                  subst this; rfl
  | n + 1, h, hno => by
    by_cases hi : i = n + 1
    · subst hi; rfl
    · rw [lookTo, if_neg (fun e => hno n (by omega) (by omega) e.symm)]
      exact lookTo_skip kf F key i n (by omega) (fun j h1 h2 => hno j h1 (by omega))

/-- The cells of the law's receiver. -/
def tCells (mv : Option Nat) : List Value := [.string ⟨#[70, 72, 73, 82]⟩, .string ⟨#[84]⟩, .int .u8 3, .bool false, .pointer none, .string ⟨#[]⟩, .pointer none, .map mv, .slice none 0 0, .slice none 0 0]

def TOk (nr : Bool) (tp : Option Addr) (mv : Option Nat) (w : World) : Prop :=
  if nr then tp = none else ∃ bt, tp = some ⟨bt, 0, none⟩ ∧ RowF w bt 31 10 (fun j => (tCells mv).getD j undef)

theorem TOk.of_blocks {nr : Bool} {tp : Option Addr} {mv : Option Nat} {w w' : World} (h : TOk nr tp mv w) (hb : ∀ r, r < w.heap.size → w'.heap[r]? = w.heap[r]?) : TOk nr tp mv w' := by
  unfold TOk at *
  cases nr with
  | true => exact h
  | false =>
    obtain ⟨bt, e, hr⟩ := h
    exact ⟨bt, e, hr.of_block (hb bt hr.lt)⟩

def lookIf (nr : Bool) (kf : Nat → ByteArray) (F : Nat → El) (nk : Nat) : ByteArray → Option El := if nr then fun _ => none else lookTo kf F nk

theorem RowF.of_blocks {w w' : World} {g : Nat} {e : TypeId} {n : Nat} {f : Nat → Value} (h : RowF w g e n f) (hb : ∀ r, r < w.heap.size → w'.heap[r]? = w.heap[r]?) : RowF w' g e n f := h.of_block (hb g h.lt)

theorem look_step {kf : Nat → ByteArray} {F : Nat → El} {m n : Nat} {w : World} {r : Nat} (h : MapF w r Value.string (fun x => if x = kf m then some (F m).val else (lookTo kf F m x).map El.val) n) :
    MapF w r Value.string (fun x => (lookTo kf F (m + 1) x).map El.val) n := by
  have e : (fun x => (lookTo kf F (m + 1) x).map El.val) = fun x => if x = kf m then some (F m).val else (lookTo kf F m x).map El.val := by
    funext x
    rw [lookTo]
    split <;> rfl
  rw [e]
  exact h

theorem str_inj (a b : ByteArray) (h : Value.string a = Value.string b) : a = b := by simpa using h

theorem elem_any (nr : Bool) (tp : Option Addr) (key : ByteArray) (mv : Option Nat) (look : ByteArray → Option El) (n : Nat) (w : World) (hT : TOk nr tp mv w) (hm : MapE w mv look n) (hnr : nr = true → ∀ k, look k = none) :
    Calls Yba.prog 5 #[.pointer tp, .string key] w fun e w' => e = .returned (El.val ((look key).getD ⟨key, none, false⟩)) ∧ Below w.heap.size w w' := by
  cases nr with
  | true =>
    have h : tp = none := hT
    subst h
    rw [hnr rfl key]
    exact elem_nil key w
  | false =>
    obtain ⟨bt, rfl, hr⟩ := hT
    exact elem_some bt key mv look n w (hr.cell (by omega)) hm

theorem toList_ne {a b : ByteArray} (h : a ≠ b) : (a.toList == b.toList) = false := by
  rw [beq_eq_false_iff_ne]
  exact fun e => h (ByteArray.ext (Array.toList_inj.1 (by rw [← ByteArray.toList_eq, ← ByteArray.toList_eq]; exact e)))

theorem want_row {w : World} {g : Nat} {a : ByteArray} {b : Option Addr} {c : Bool} (h : RowF w g 35 3 (fun j => [Value.string a, .pointer b, .bool c].getD j undef)) : RowF w g 35 3 (elCell fun _ => ⟨a, b, c⟩) :=
  h.congr (fun j hj => by match j, hj with
    | 0, _ => rfl
    | 1, _ => rfl
    | 2, _ => rfl)


/-- A pointer compared with itself. -/
theorem equalIn_ptr_self (d : Nat) (p : Option Addr) (w : World) : (Op.equalIn (d + 1) 25 (.pointer p) (.pointer p)).run Yba.prog w = .ok true w := by
  cases p with
  | none => simp [Op.equalIn, run_underlying Yba.underlying25]
  | some a => simp [Op.equalIn, run_underlying Yba.underlying25, sameAddr, Result.andThen]

theorem equal_ptr_self (p : Option Addr) (w : World) : (Op.equal 25 (.pointer p) (.pointer p)).run Yba.prog w = .ok true w := equalIn_ptr_self 9999 p w

theorem neq_ptr_self (p : Option Addr) (w : World) : (binOp .neq 25 (.pointer p) (.pointer p)).run Yba.prog w = .ok (.bool false) w := by
  simp only [binOp]
  simp [equal_ptr_self p w]

end Go.Proofs.Ybulkdtoy.lawS6017BWhole
