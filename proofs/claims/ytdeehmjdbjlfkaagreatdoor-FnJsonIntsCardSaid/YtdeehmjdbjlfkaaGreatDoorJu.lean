/- The JSON reader: its tokens; consumeToken, consumeStringToken. -/
import Derived.Test.YtdeehmjdbjlfkaaGreatDoorJt
import Derived.Laws.ResultCell
namespace Go.Proofs.YtdeehmjdbjlfkaaGreatDoor.js
open Go.RowKit
set_option linter.unusedVariables false
set_option linter.unusedSimpArgs false

/-- But for block q, all that was there stands. -/
structure Keeps (q : Nat) (w w' : World) : Prop where
  os : w'.os = w.os
  tape : w'.tape = w.tape
  output : w'.output = w.output
  size : w.heap.size ≤ w'.heap.size
  block : ∀ i, i < w.heap.size → i ≠ q → w'.heap[i]? = w.heap[i]?

theorem Keeps.refl (q : Nat) (w : World) : Keeps q w w := ⟨rfl, rfl, rfl, Nat.le_refl _, fun _ _ _ => rfl⟩
theorem Keeps.trans {q : Nat} {a b c : World} (h : Keeps q a b) (h' : Keeps q b c) : Keeps q a c :=
  ⟨h'.os.trans h.os, h'.tape.trans h.tape, h'.output.trans h.output, Nat.le_trans h.size h'.size, fun i hi hq => (h'.block i (Nat.lt_of_lt_of_le hi h.size) hq).trans (h.block i hi hq)⟩
theorem Keeps.of {q : Nat} {a b : World} (h : Below a.heap.size a b) : Keeps q a b := ⟨h.os, h.tape, h.output, h.size, fun i hi _ => h.block i hi⟩
theorem Keeps.below {q B : Nat} {a b : World} (h : Keeps q a b) (hB : B ≤ q) (hs : B ≤ a.heap.size) : Below B a b := ⟨h.os, h.tape, h.output, h.size, fun i hi => h.block i (by omega) (by omega)⟩
theorem Keeps.setCell {q : Nat} {a b : World} (h : Keeps q a b) (j : Nat) (v : Value) : Keeps q a (b.setCell ⟨q, j, none⟩ v) := by
  have := (Below.refl q b).setCell (p := ⟨q, j, none⟩) (Nat.le_refl q) v
  refine ⟨h.os, h.tape, h.output, by simpa using h.size, fun i hi hq => ?_⟩
  rw [← h.block i hi hq]
  show (b.heap.modify q _)[i]? = _
  rw [Array.getElem?_modify, if_neg (fun e => hq e.symm)]
theorem Keeps.cell {q : Nat} {a b : World} (h : Keeps q a b) {p : Addr} (hp : p.block < a.heap.size) (hq : p.block ≠ q) : b.cell? p = a.cell? p := by
  unfold World.cell?
  rw [h.block p.block hp hq]
theorem Keeps.frozen {q : Nat} {a b : World} (h : Keeps q a b) {p : Addr} (hp : p.block < a.heap.size) (hq : p.block ≠ q) : b.frozen? p = a.frozen? p := by
  unfold World.frozen?
  rw [h.block p.block hp hq]
theorem Keeps.row {q b o : Nat} {m : List UInt8} {x y : World} (h : Keeps q x y) (hr : RowM x b o m) (hb : b < x.heap.size) (hq : b ≠ q) : RowM y b o m :=
  fun j hj => (h.cell (p := ⟨b, o + j, none⟩) hb hq).trans (hr j hj)

/-- A token. -/
def tokV (k : Nat) (p : Int) (raw : Value) (bo : Bool) (s : ByteArray) : Value := .agg #[.int .u16 k, .int .i64 p, raw, .bool bo, .string s]

/-- What the reader's block holds: the last token, the open brackets, the text, what is unread. -/
def decRow (k : Nat) (p : Int) (raw : Value) (bo : Bool) (s : ByteArray) (sv orig inv : Value) : Array Value :=
  #[.int .u8 0, .int .u16 k, .int .i64 p, raw, .bool bo, .string s, .nilIface, sv, orig, inv]

def DecAt (w : World) (q : Nat) (k : Nat) (p : Int) (raw : Value) (bo : Bool) (s : ByteArray) (sv orig inv : Value) : Prop :=
  w.heap[q]? = some (.cells (decRow k p raw bo s sv orig inv) 100 (0, 0))

theorem blk_cell {w : World} {q : Nat} {cs : Array Value} {T : TypeId} (h : w.heap[q]? = some (.cells cs T (0, 0))) {j : Nat} {v : Value} (hj : cs[j]? = some v) : w.cell? ⟨q, j, none⟩ = some v := by
  rw [cell_of_row w q j cs T (0, 0) h]; exact hj

theorem blk_frozen {w : World} {q : Nat} {cs : Array Value} {T : TypeId} (h : w.heap[q]? = some (.cells cs T (0, 0))) (j : Nat) : w.frozen? ⟨q, j, none⟩ = false := by
  unfold World.frozen?
  rw [h]
  simp

theorem blk_set {w : World} {q : Nat} {cs : Array Value} {T : TypeId} (h : w.heap[q]? = some (.cells cs T (0, 0))) (j : Nat) (v : Value) : (w.setCell ⟨q, j, none⟩ v).heap[q]? = some (.cells (cs.setIfInBounds j v) T (0, 0)) := by
  show (w.heap.modify q _)[q]? = _
  rw [Array.getElem?_modify, if_pos rfl, h]
  simp

theorem two_news (W : World) (o o' : Obj) : Below W.heap.size W ((W.alloc o).alloc o').drew := (((Below.refl _ _).alloc (Nat.le_refl _) o).alloc (by simp) o').drew

def inV (b off n c : Nat) : Value := .slice (some ⟨b, off, none⟩) n c

theorem dec_in {w : World} {q k : Nat} {p : Int} {raw : Value} {bo : Bool} {s : ByteArray} {sv orig inv : Value} (h : DecAt w q k p raw bo s sv orig inv) (inv' : Value) : DecAt (w.setCell ⟨q, 9, none⟩ inv') q k p raw bo s sv orig inv' :=
  blk_set h 9 inv'

set_option maxHeartbeats 8000000 in
set_option maxRecDepth 100000 in
theorem consume_string (q b L cap pos off n c size k : Nat) (p : Int) (raw : Value) (bo : Bool) (s0 s : ByteArray) (sv : Value) (oo on oc : Nat) (T : List UInt8) (hT : T.length = L) (hk : size ≤ n) (hL : L ≤ cap) (hcap : cap ≤ 9223372036854775807) (hon : on = L) (hv : InAt b L cap pos off n c) (w : World) (hq : q < w.heap.size) (hbq : b < q)
    (hd : DecAt w q k p raw bo s0 sv (.slice (some ⟨b, oo, none⟩) on oc) (inV b off n c)) (hr : RowM w b 0 T) :
    Calls Tryz.prog 79 #[.pointer (some ⟨q, 0, none⟩), .string s, .int .i64 size] w fun e w' =>
      e = .returned (tokV 16 pos (.slice (some ⟨b, off, none⟩) size c) false s) ∧ Keeps q w w' ∧ ∃ off' n' c', InAt b L cap (skip T (pos + size)) off' n' c' ∧ DecAt w' q k p raw bo s0 sv (.slice (some ⟨b, oo, none⟩) on oc) (inV b off' n' c') := by
  have c8 := blk_cell (j := 8) hd rfl
  have c9 := blk_cell (j := 9) hd rfl
  have hc := hv
  obtain ⟨i1, i2, i3, i4⟩ := hc
  have t1 : (size : Int) ≤ (c : Int) := by omega
  have t2 : (0 : Int) ≤ (size : Int) := by omega
  have e1 : IntKind.i64.wrap ((on : Int) - (n : Int)) = (pos : Int) := by rw [IntKind.wrap_i64]; omega
  have HC := Lib.hid (fun W (hW : Below w.heap.size w W) => consume q b L cap pos off n c size T hT hk hL hcap hv W ((hW.cell (p := ⟨q, 9, none⟩) hq).trans c9) ((hW.frozen (p := ⟨q, 9, none⟩) hq).trans (blk_frozen hd 9)) (hr.below hW (by omega)) (by omega))
  have HD := Lib.hid (fun W (hW : Below w.heap.size w W) => (hW.block q hq).trans hd)
  unfold inV at c9
  have HK : Hid (∀ W, Below w.heap.size w W → W.cell? ⟨q, 8, none⟩ = some (.slice (some ⟨b, oo, none⟩) on oc) ∧ W.cell? ⟨q, 9, none⟩ = some (.slice (some ⟨b, off, none⟩) n c)) := Lib.hid (fun W hW => ⟨(hW.cell (p := ⟨q, 8, none⟩) hq).trans c8, (hW.cell (p := ⟨q, 9, none⟩) hq).trans c9⟩)
  clear hd hr hv i1 i2 i3 i4 hon hT
  go_enter Tryz.func79, Tryz.ntmps79
  go_wp2_with fail
  go_region_held3 (fun w' => w'.cell? ⟨q, 8, none⟩ = some (.slice (some ⟨b, oo, none⟩) on oc) ∧ w'.cell? ⟨q, 9, none⟩ = some (.slice (some ⟨b, off, none⟩) n c)) (first | exact HK.out _ (by go_grown) | go_keep) (fail)
  go_wp2_with fail
  have hne1 : ¬ q = w.heap.size := by omega
  have hne2 : ¬ q = w.heap.size + 1 := by omega
  refine (HC.out _ (by go_grown)).mono ?_
  rintro e w2 ⟨rfl, off', n', c', hin, rfl⟩
  have HIN := Lib.hid hin
  clear hin
  go_wp2_with fail
  refine bodyPost_ret (v := tokV 16 pos (.slice (some ⟨b, off, none⟩) size c) false s) (by simp [results, Tryz.results79, go_sem, tokV]) rfl ⟨rfl, ?_⟩
  refine ⟨((Keeps.refl q w).setCell 9 _).trans (Keeps.of (two_news _ _ _)), off', n', c', HIN.out, ?_⟩
  exact (Below.block (B := (w.setCell ⟨q, 9, none⟩ (inV b off' n' c')).heap.size) (w := w.setCell ⟨q, 9, none⟩ (inV b off' n' c')) (two_news _ _ _) q (by simpa using hq)).trans (dec_in (HD.out w (Below.refl _ _)) _)

/-- What consumeToken, consumeStringToken and their kin leave: the token, the rest. -/
def Took (w : World) (q b L cap : Nat) (T : List UInt8) (ed k : Nat) (p : Int) (raw : Value) (bo : Bool) (s0 : ByteArray) (sv orig : Value) (w' : World) : Prop :=
  Keeps q w w' ∧ ∃ off' n' c', InAt b L cap (skip T ed) off' n' c' ∧ DecAt w' q k p raw bo s0 sv orig (inV b off' n' c')

set_option maxHeartbeats 8000000 in
set_option maxRecDepth 100000 in
theorem consume_token (kd q b L cap pos off n c size k : Nat) (p : Int) (raw : Value) (bo : Bool) (s0 : ByteArray) (sv : Value) (oo on oc : Nat) (T : List UInt8) (hT : T.length = L) (hk : size ≤ n) (hL : L ≤ cap) (hcap : cap ≤ 9223372036854775807) (hon : on = L) (hv : InAt b L cap pos off n c) (w : World) (hq : q < w.heap.size) (hbq : b < q)
    (hd : DecAt w q k p raw bo s0 sv (.slice (some ⟨b, oo, none⟩) on oc) (inV b off n c)) (hr : RowM w b 0 T) :
    Calls Tryz.prog 74 #[.pointer (some ⟨q, 0, none⟩), .int .u16 kd, .int .i64 size] w fun e w' =>
      e = .returned (tokV kd pos (.slice (some ⟨b, off, none⟩) size c) false ⟨#[]⟩) ∧ Took w q b L cap T (pos + size) k p raw bo s0 sv (.slice (some ⟨b, oo, none⟩) on oc) w' := by
  have c8 := blk_cell (j := 8) hd rfl
  have c9 := blk_cell (j := 9) hd rfl
  have hc := hv
  obtain ⟨i1, i2, i3, i4⟩ := hc
  have t1 : (size : Int) ≤ (c : Int) := by omega
  have t2 : (0 : Int) ≤ (size : Int) := by omega
  have e1 : IntKind.i64.wrap ((on : Int) - (n : Int)) = (pos : Int) := by rw [IntKind.wrap_i64]; omega
  have HC := Lib.hid (fun W (hW : Below w.heap.size w W) => consume q b L cap pos off n c size T hT hk hL hcap hv W ((hW.cell (p := ⟨q, 9, none⟩) hq).trans c9) ((hW.frozen (p := ⟨q, 9, none⟩) hq).trans (blk_frozen hd 9)) (hr.below hW (by omega)) (by omega))
  have HD := Lib.hid (fun W (hW : Below w.heap.size w W) => (hW.block q hq).trans hd)
  unfold inV at c9
  have HK : Hid (∀ W, Below w.heap.size w W → W.cell? ⟨q, 8, none⟩ = some (.slice (some ⟨b, oo, none⟩) on oc) ∧ W.cell? ⟨q, 9, none⟩ = some (.slice (some ⟨b, off, none⟩) n c)) := Lib.hid (fun W hW => ⟨(hW.cell (p := ⟨q, 8, none⟩) hq).trans c8, (hW.cell (p := ⟨q, 9, none⟩) hq).trans c9⟩)
  have hne1 : ¬ q = w.heap.size := by omega
  have hne2 : ¬ q = w.heap.size + 1 := by omega
  clear hd hr hv i1 i2 i3 i4 hon hT
  go_enter Tryz.func74, Tryz.ntmps74
  go_wp2_with fail
  go_region_held3 (fun w' => w'.cell? ⟨q, 8, none⟩ = some (.slice (some ⟨b, oo, none⟩) on oc) ∧ w'.cell? ⟨q, 9, none⟩ = some (.slice (some ⟨b, off, none⟩) n c)) (first | exact HK.out _ (by go_grown) | go_keep) (fail)
  go_wp2_with fail
  refine (HC.out _ (by go_grown)).mono ?_
  rintro e w2 ⟨rfl, off', n', c', hin, rfl⟩
  have HIN := Lib.hid hin
  clear hin
  go_wp2_with fail
  refine bodyPost_ret (v := tokV kd pos (.slice (some ⟨b, off, none⟩) size c) false ⟨#[]⟩) (by simp [results, Tryz.results74, go_sem, tokV]) rfl ⟨rfl, ?_⟩
  refine ⟨((Keeps.refl q w).setCell 9 _).trans (Keeps.of (two_news _ _ _)), off', n', c', HIN.out, ?_⟩
  exact (Below.block (B := (w.setCell ⟨q, 9, none⟩ (inV b off' n' c')).heap.size) (w := w.setCell ⟨q, 9, none⟩ (inV b off' n' c')) (two_news _ _ _) q (by simpa using hq)).trans (dec_in (HD.out w (Below.refl _ _)) _)

end Go.Proofs.YtdeehmjdbjlfkaaGreatDoor.js
