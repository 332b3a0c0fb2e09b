/- Words of the walks through the text form's reader: rows of bytes, what is unread, blocks. -/
import Derived.Test.YtpneioocmpagmaaGreatDoorProg
import Derived.WalkKit
import Derived.WalkSpells
import Derived.WalkLawsBesides
import Derived.Below
import Derived.OwnWalk
import Derived.Handy
import Derived.Lib.Hide
import Derived.Lib.OthersKept
import Derived.LoopTactic
import Derived.StillTailTactics
import Derived.Laws.IdiomStrings
import Derived.Laws.ResultCell
import Derived.Laws.CopyRow
import Derived.Defers
import Derived.Sort.Row
namespace Go.Proofs.YtpneioocmpagmaaGreatDoor.tx
open Go.RowKit
set_option linter.unusedVariables false
set_option linter.unusedSimpArgs false

/-- A row of bytes that is read, byte by byte. -/
def RowM (w : World) (b o : Nat) (m : List UInt8) : Prop := ∀ j, j < m.length → w.cell? ⟨b, o + j, none⟩ = some (.int .u8 ((m.getD j 0).toNat : Int))

theorem RowM.below {w w' : World} {B b o : Nat} {m : List UInt8} (h : RowM w b o m) (hb : Below B w w') (hB : b < B) : RowM w' b o m :=
  fun j hj => (hb.cell (p := ⟨b, o + j, none⟩) hB).trans (h j hj)

theorem add_pos (b off j : Nat) : (⟨b, off, none⟩ : Addr).add j = ⟨b, off + j, none⟩ := by
  unfold Addr.add
  by_cases h : j = 0
  · subst h; simp
  · simp [h]

theorem row_size (t : ByteArray) : t.size = t.data.toList.length := by rw [Array.length_toList]; rfl

theorem getD_drop (m : List UInt8) (k j : Nat) : (m.drop k).getD j 0 = m.getD (k + j) 0 := by
  rw [List.getD_eq_getElem?_getD, List.getElem?_drop, ← List.getD_eq_getElem?_getD]

/-- Blanks between tokens. -/
def ws (c : Nat) : Bool := c == 32 || c == 10 || c == 13 || c == 9

/-- From k on, blanks and remarks are passed over up to p. -/
inductive Sk (T : List UInt8) : Nat → Nat → Prop where
  | stop (k : Nat) : (k < T.length → ws (T.getD k 0).toNat = false ∧ (T.getD k 0).toNat ≠ 35) → Sk T k k
  | blank (k p : Nat) : k < T.length → ws (T.getD k 0).toNat = true → Sk T (k + 1) p → Sk T k p
  | remark (k i p : Nat) : k + i < T.length → (T.getD k 0).toNat = 35 → (T.getD (k + i) 0).toNat = 10 → (∀ j, j < i → (T.getD (k + j) 0).toNat ≠ 10) → Sk T (k + i + 1) p → Sk T k p

/-- The unread rest, from pos on, as the reader holds it: a slice of block b. -/
def InAt (b L cap pos off n c : Nat) : Prop := pos + n = L ∧ n ≤ c ∧ c ≤ cap ∧ (0 < n → off = pos ∧ c = cap - pos)

theorem inAt_cut {b L cap pos off n c k : Nat} (h : InAt b L cap pos off n c) (hk : k ≤ n) (hL : L ≤ cap) : InAt b L cap (pos + k) (off + k) (n - k) (c - k) := by
  obtain ⟨h1, h2, h3, h4⟩ := h
  refine ⟨by omega, by omega, by omega, fun hp => ?_⟩
  have := h4 (by omega)
  omega

theorem inAt_end {b L cap pos off n c k : Nat} (h : InAt b L cap pos off n c) (hk : k ≤ n) (hc : c = k) : InAt b L cap (pos + k) off 0 0 := by
  obtain ⟨h1, h2, h3, h4⟩ := h
  exact ⟨by omega, by omega, by omega, fun hp => by omega⟩

/-- The length of the slice in a cell. -/
def lenAt (w : World) (a : Addr) : Nat := match w.cell? a with | some (.slice _ n _) => n | _ => 0

theorem lenAt_set (w : World) (a : Addr) (u v : Value) (h : w.cell? a = some u) : lenAt (w.setCell a v) a = match v with | .slice _ n _ => n | _ => 0 := by
  unfold lenAt
  rw [World.cell?_setCell_same w a v h]
  cases v <;> rfl

/-- A store over a store into the same cell. -/
theorem setCell_setCell (w : World) (blk off : Nat) (v v' : Value) : (w.setCell ⟨blk, off, none⟩ v).setCell ⟨blk, off, none⟩ v' = w.setCell ⟨blk, off, none⟩ v' := by
  rw [Sort.setCell_eq, Sort.setCell_eq, Sort.mapBlock_mapBlock, Sort.setCell_eq]
  congr 1
  funext c
  simp

theorem ws_cases (x : Nat) : (ws x = true ∧ (x = 32 ∨ x = 10 ∨ x = 13 ∨ x = 9)) ∨ (ws x = false ∧ ((x : Int) == 32) = false ∧ ((x : Int) == 10) = false ∧ ((x : Int) == 13) = false ∧ ((x : Int) == 9) = false) := by
  unfold ws
  simp only [Bool.or_eq_true, beq_iff_eq, Bool.or_eq_false_iff, beq_eq_false_iff_ne]
  omega

/-- But for block q, all that was there stands. -/
structure Keeps (q : Nat) (w w' : World) : Prop where
  os : w'.os = w.os
  tape : w'.tape = w.tape
  output : w'.output = w.output
  size : w.heap.size ≤ w'.heap.size
  block : ∀ i, i < w.heap.size → i ≠ q → w'.heap[i]? = w.heap[i]?

theorem Keeps.refl (q : Nat) (w : World) : Keeps q w w := ⟨rfl, rfl, rfl, Nat.le_refl _, fun _ _ _ => rfl⟩
theorem Keeps.trans {q : Nat} {a b c : World} (h : Keeps q a b) (h' : Keeps q b c) : Keeps q a c :=
  ⟨h'.os.trans h.os, h'.tape.trans h.tape, h'.output.trans h.output, Nat.le_trans h.size h'.size, fun i hi hq => (h'.block i (Nat.lt_of_lt_of_le hi h.size) hq).trans (h.block i hi hq)⟩
theorem Keeps.of {q : Nat} {a b : World} (h : Below a.heap.size a b) : Keeps q a b := ⟨h.os, h.tape, h.output, h.size, fun i hi _ => h.block i hi⟩
theorem Keeps.below {q B : Nat} {a b : World} (h : Keeps q a b) (hB : B ≤ q) (hs : B ≤ a.heap.size) : Below B a b := ⟨h.os, h.tape, h.output, h.size, fun i hi => h.block i (by omega) (by omega)⟩
theorem Keeps.setCell {q : Nat} {a b : World} (h : Keeps q a b) (j : Nat) (v : Value) : Keeps q a (b.setCell ⟨q, j, none⟩ v) := by
  have := (Below.refl q b).setCell (p := ⟨q, j, none⟩) (Nat.le_refl q) v
  refine ⟨h.os, h.tape, h.output, by simpa using h.size, fun i hi hq => ?_⟩
  rw [← h.block i hi hq]
  show (b.heap.modify q _)[i]? = _
  rw [Array.getElem?_modify, if_neg (fun e => hq e.symm)]
theorem Keeps.cell {q : Nat} {a b : World} (h : Keeps q a b) {p : Addr} (hp : p.block < a.heap.size) (hq : p.block ≠ q) : b.cell? p = a.cell? p := by
  unfold World.cell?
  rw [h.block p.block hp hq]
theorem Keeps.frozen {q : Nat} {a b : World} (h : Keeps q a b) {p : Addr} (hp : p.block < a.heap.size) (hq : p.block ≠ q) : b.frozen? p = a.frozen? p := by
  unfold World.frozen?
  rw [h.block p.block hp hq]
theorem Keeps.row {q b o : Nat} {m : List UInt8} {x y : World} (h : Keeps q x y) (hr : RowM x b o m) (hb : b < x.heap.size) (hq : b ≠ q) : RowM y b o m :=
  fun j hj => (h.cell (p := ⟨b, o + j, none⟩) hb hq).trans (hr j hj)

theorem blk_cell {w : World} {q : Nat} {cs : Array Value} {T : TypeId} (h : w.heap[q]? = some (.cells cs T (0, 0))) {j : Nat} {v : Value} (hj : cs[j]? = some v) : w.cell? ⟨q, j, none⟩ = some v := by
  rw [cell_of_row w q j cs T (0, 0) h]; exact hj

theorem blk_frozen {w : World} {q : Nat} {cs : Array Value} {T : TypeId} (h : w.heap[q]? = some (.cells cs T (0, 0))) (j : Nat) : w.frozen? ⟨q, j, none⟩ = false := by
  unfold World.frozen?
  rw [h]
  simp

theorem blk_set {w : World} {q : Nat} {cs : Array Value} {T : TypeId} (h : w.heap[q]? = some (.cells cs T (0, 0))) (j : Nat) (v : Value) : (w.setCell ⟨q, j, none⟩ v).heap[q]? = some (.cells (cs.setIfInBounds j v) T (0, 0)) := by
  show (w.heap.modify q _)[q]? = _
  rw [Array.getElem?_modify, if_pos rfl, h]
  simp

theorem two_news (W : World) (o o' : Obj) : Below W.heap.size W ((W.alloc o).alloc o').drew := (((Below.refl _ _).alloc (Nat.le_refl _) o).alloc (by simp) o').drew

def inV (b off n c : Nat) : Value := .slice (some ⟨b, off, none⟩) n c

/-- A whole row stored into a block of the call's own; what lay below stands. -/
theorem store_own {P : Program} {ops : Array Oper} {rest : List Oper} {o : Oper} {a : Act} {w : World} {Q : Exit → Act → World → Prop} (hgd : o.guard = none) (ty : TypeId) (x y : Operand) (ho : o.op = .store ty x y)
    (g : Nat) (cells : Array Value) (hx : a.eval x = .pointer (some ⟨g, 0, none⟩)) (hy : a.eval y = .agg cells)
    (t : TypeId) (old : Array Value) (hg : w.heap[g]? = some (.cells old t (0, 0))) (n : Nat) (hi : (P.info? ty).map (·.size) = some n) (hn : cells.size = n) (ho' : old.size = n) (h1 : cells.toList.all (·.oneCell') = true)
    (q : Nat) (W : World) (hW : Keeps q W w) (hR : W.heap.size ≤ g)
    (h : ∀ w', w'.heap[g]? = some (.cells cells t (0, 0)) → (∀ (j : Nat) (v : Value), cells[j]? = some v → w'.cell? ⟨g, j, none⟩ = some v) → (∀ k, k ≠ g → w'.heap[k]? = w.heap[k]?) → w'.heap.size = w.heap.size → Keeps q W w' → wpList P ops Q rest (a.put o.dst undef) w') :
    wpList P ops Q (o :: rest) a w := by
  refine wpList_store_row hgd ty x y ho g cells hx hy t old hg (by rw [hi, hn]) (by omega) (by simpa using h1) (h _ (setRow_heap w g old cells t (0, 0) hg) (fun j v hj => ?_) (fun k hk => setRow_other w g k cells hk) (by simp [World.setRow]) ?_)
  · rw [cell_setRow_same w g j old cells t (0, 0) hg]; exact hj
  · exact ⟨hW.os, hW.tape, hW.output, by simpa [World.setRow] using hW.size, fun i hi hq => (setRow_other _ _ _ _ (by omega)).trans (hW.block i hi hq)⟩

theorem below_row {x y : World} {b o : Nat} {m : List UInt8} (h : Below x.heap.size x y) (hr : RowM x b o m) (hb : b < x.heap.size) : RowM y b o m := hr.below h hb

theorem row_drop {w : World} {b k : Nat} {T m : List UInt8} (h : RowM w b 0 T) (hm : T.drop k = m) : RowM w b k m := by
  subst hm
  intro j hj
  rw [List.length_drop] at hj
  have := h (k + j) (by omega)
  rw [Nat.zero_add] at this
  rw [this, getD_drop]

theorem run_storeVar_seg {P : Program} (w : World) (g o : Nat) (t ty : TypeId) (old cells : Array Value) (hg : w.heap[g]? = some (.cells old t (0, 0))) (hi : (P.info? ty).map (·.size) = some cells.size)
    (hfit : o + cells.size ≤ old.size) (h1 : cells.all (·.oneCell') = true) :
    (storeVar ty ⟨g, o, none⟩ (.agg cells)).run P w = .ok () (w.setRow g (old.toList.take o ++ cells.toList ++ old.toList.drop (o + cells.size)).toArray) := by
  obtain ⟨i, hq, hs⟩ := Option.map_eq_some_iff.1 hi
  have := run_storeCells_at P g o t cells.toList 0 old w hg (by simpa using hfit) (fun v hv => (Array.all_eq_true_iff_forall_mem.1 h1) v (by simpa using hv))
  simp only [Nat.add_zero, Array.length_toList] at this
  simp [storeVar, sizeOf, typeInfo, hq, Value.cells, hs, this]

/-- A whole struct stored into a part of a block. -/
theorem store_seg {P : Program} {ops : Array Oper} {rest : List Oper} {o : Oper} {a : Act} {w : World} {Q : Exit → Act → World → Prop} (hgd : o.guard = none) (ty : TypeId) (x y : Operand) (ho : o.op = .store ty x y)
    (g at_ : Nat) (cells : Array Value) (hx : a.eval x = .pointer (some ⟨g, at_, none⟩)) (hy : a.eval y = .agg cells)
    (t : TypeId) (old new : Array Value) (hg : w.heap[g]? = some (.cells old t (0, 0))) (n : Nat) (hi : (P.info? ty).map (·.size) = some n) (hn : cells.size = n) (hfit : at_ + cells.size ≤ old.size) (h1 : cells.toList.all (·.oneCell') = true)
    (hnew : (old.toList.take at_ ++ cells.toList ++ old.toList.drop (at_ + cells.size)).toArray = new) (W : World) (hW : Keeps g W w)
    (h : ∀ w', w'.heap[g]? = some (.cells new t (0, 0)) → (∀ k, k ≠ g → w'.heap[k]? = w.heap[k]?) → w'.heap.size = w.heap.size → Keeps g W w' → wpList P ops Q rest (a.put o.dst undef) w') :
    wpList P ops Q (o :: rest) a w := by
  refine wpList_plain hgd fun K hK => ?_
  unfold Oper.wp execOp
  simp only [ho, hx, hy, Instr.storeAt, Instr.sureAddr, Sem.run_bind, Sem.run_pure, Result.andThen_ok, run_storeVar_seg w g at_ t ty old cells hg (by rw [hi, hn]) hfit (by simpa using h1)]
  refine hK _ _ ?_
  rw [hnew]
  refine h _ (setRow_heap w g old new t (0, 0) hg) (fun k hk => setRow_other w g k new hk) (by simp [World.setRow]) ?_
  exact ⟨hW.os, hW.tape, hW.output, by simpa [World.setRow] using hW.size, fun i hi hq => (setRow_other _ _ _ _ (fun e => hq e)).trans (hW.block i hi hq)⟩

theorem alloc_blk {w : World} {o o' : Obj} {k : Nat} (h : w.heap[k]? = some o') : (w.alloc o).heap[k]? = some o' := by
  have hk := (Array.getElem?_eq_some_iff.1 h).1
  rw [Below.heap_alloc _ _ _ hk]; exact h

/-- The same within a region that draws its order. -/
theorem step_store_own {P : Program} {ops : Array Oper} {o : Oper} {a : Act} {w : World} {K : Act → World → Prop} {Q : Exit → Act → World → Prop} {E : Prop} (hgd : o.guard = none) (ty : TypeId) (x y : Operand) (ho : o.op = .store ty x y)
    (g : Nat) (cells : Array Value) (hx : a.eval x = .pointer (some ⟨g, 0, none⟩)) (hy : a.eval y = .agg cells)
    (t : TypeId) (old : Array Value) (hg : w.heap[g]? = some (.cells old t (0, 0))) (n : Nat) (hi : (P.info? ty).map (·.size) = some n) (hn : cells.size = n) (ho' : old.size = n) (h1 : cells.toList.all (·.oneCell') = true)
    (h : ∀ w', w'.heap[g]? = some (.cells cells t (0, 0)) → (∀ (j : Nat) (v : Value), cells[j]? = some v → w'.cell? ⟨g, j, none⟩ = some v) → (∀ B W, Below B W w → B ≤ g → Below B W w') → w'.heap.size = w.heap.size → K (a.put o.dst undef) w') :
    if Region.wanted o (yielded ops a.tmps) = true then Oper.wp P o a w K Q else E := by
  have hw : Region.wanted o (yielded ops a.tmps) = true := by simp [Region.wanted, hgd]
  rw [if_pos hw]
  unfold Oper.wp execOp
  simp only [ho, hx, hy, Instr.storeAt, Instr.sureAddr, Sem.run_bind, Sem.run_pure, Result.andThen_ok, run_storeVar_seg w g 0 t ty old cells hg (by rw [hi, hn]) (by omega) (by simpa using h1)]
  have e : (old.toList.take 0 ++ cells.toList ++ old.toList.drop (0 + cells.size)).toArray = cells := by
    rw [List.drop_eq_nil_of_le (by rw [Array.length_toList]; omega)]
    simp
  rw [e]
  refine h _ (setRow_heap w g old cells t (0, 0) hg) (fun j v hj => ?_) (fun B W hB hg' => ?_) (by simp [World.setRow])
  · rw [cell_setRow_same w g j old cells t (0, 0) hg]; exact hj
  · exact ⟨hB.os, hB.tape, hB.output, by simpa [World.setRow] using hB.size, fun i hi => (setRow_other _ _ _ _ (by omega)).trans (hB.block i hi)⟩

theorem conv_row {w : World} {b o c : Nat} {tx : List UInt8} (hr : RowM w b o tx) : (convert 25 9 (.slice (some ⟨b, o, none⟩) tx.length c)).run Tryz.prog w = .ok (.string ⟨tx.toArray⟩) w :=
  run_convert_bytes_back (P := Tryz.prog) w 25 9 5 ⟨b, o, none⟩ c tx Tryz.underlying25 Tryz.underlying5 Tryz.underlying9 (fun j hj => by
    rw [add_pos, hr j hj, List.getD_eq_getElem?_getD, List.getElem?_eq_getElem hj]; rfl)

end Go.Proofs.YtpneioocmpagmaaGreatDoor.tx

