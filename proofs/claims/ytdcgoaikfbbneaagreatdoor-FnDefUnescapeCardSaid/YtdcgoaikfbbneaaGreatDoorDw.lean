/- Whole structs stored, and impl.enum without names. -/
import Derived.Test.YtdcgoaikfbbneaaGreatDoorPp
import Derived.Deep.DeepCutAuto
namespace Go.Proofs.YtdcgoaikfbbneaaGreatDoor.ints
open Go.RowKit Go.Proofs.YtdcgoaikfbbneaaGreatDoor.num Go.Proofs.YtdcgoaikfbbneaaGreatDoor.pu
set_option linter.unusedVariables false
set_option linter.unusedSimpArgs false

set_option maxHeartbeats 4000000 in
set_option maxRecDepth 100000 in
theorem enum_nil (w : World) : Calls Tryz.prog 11 #[.slice none 0 0, .slice none 0 0] w fun e w' => e = .returned (.slice none 0 0) ∧ w = w' := by
  go_enter Tryz.func11, Tryz.ntmps11
  go_wp2
  refine wp_loop_rounds 1 ?_
  rw [rounds_succ]
  go_wp2
  go_ret
  exact ⟨rfl, rfl⟩

theorem bdn {B : Nat} {a w : World} (h : Below B a w) (n : Nat) : Below B a (w.drewN n) := ⟨h.os, h.tape, h.output, h.size, h.block⟩

/-- A struct's box, just laid, and draws behind it. -/
theorem boxed {w W1 : World} {cs : Array Value} {T : TypeId} {n : Nat} (h : W1 = (w.alloc (.cells cs T)).drewN n) :
    Below w.heap.size w W1 ∧ w.heap.size < W1.heap.size ∧ ∀ w' : World, Below W1.heap.size W1 w' → ∀ (j : Nat) (v : Value), cs[j]? = some v → w'.cell? ⟨w.heap.size, j, none⟩ = some v := by
  have hs : W1.heap.size = w.heap.size + 1 := by
    rw [h]
    show (w.alloc _).heap.size = _
    simp
  refine ⟨by rw [h]; exact bdn ((Below.refl _ _).alloc (Nat.le_refl _) _) _, by omega, fun w' hb j v hj => ?_⟩
  rw [hb.cell (p := ⟨w.heap.size, j, none⟩) (by show w.heap.size < _; omega), h]
  show (w.alloc (.cells cs T)).cell? ⟨w.heap.size, j, none⟩ = some v
  simp [World.cell?_alloc_new, hj]

/-- Behind a call that began when a block had just been laid: the block. -/
theorem after_box {w w2 : World} {o : Obj} (hb : Below (w.alloc o).heap.size (w.alloc o) w2) :
    w2.heap[w.heap.size]? = some o ∧ w.heap.size < w2.heap.size ∧ Below w.heap.size w w2 := by
  have hs : (w.alloc o).heap.size = w.heap.size + 1 := by simp
  exact ⟨(hb.block _ (by omega)).trans (heap_alloc_new w o), by have := hb.size; omega, ((Below.refl _ _).alloc (Nat.le_refl _) _).trans (hb.mono (by omega))⟩

theorem alloc_old {w : World} {o o' : Obj} {k : Nat} (h : w.heap[k]? = some o') : (w.alloc o).heap[k]? = some o' := by
  have hk := (Array.getElem?_eq_some_iff.1 h).1
  rw [Below.heap_alloc _ _ _ hk]; exact h

/-- A whole row stored into a block of the call's own; what lay below stands. -/
theorem store_blk {P : Program} {ops : Array Oper} {rest : List Oper} {o : Oper} {a : Act} {w : World} {Q : Exit → Act → World → Prop} (hgd : o.guard = none) (ty : TypeId) (x y : Operand) (ho : o.op = .store ty x y)
    (g : Nat) (cells : Array Value) (hx : a.eval x = .pointer (some ⟨g, 0, none⟩)) (hy : a.eval y = .agg cells)
    (t : TypeId) (old : Array Value) (hg : w.heap[g]? = some (.cells old t (0, 0))) (n : Nat) (hi : (P.info? ty).map (·.size) = some n) (hn : cells.size = n) (ho' : old.size = n) (h1 : cells.toList.all (·.oneCell') = true)
    (W : World) (B : Nat) (hB : B ≤ g) (hw : Below B W w)
    (h : ∀ w', w'.heap[g]? = some (.cells cells t (0, 0)) → (∀ (j : Nat) (v : Value), cells[j]? = some v → w'.cell? ⟨g, j, none⟩ = some v) → (∀ k, k ≠ g → w'.heap[k]? = w.heap[k]?) → w'.heap.size = w.heap.size → Below B W w' → wpList P ops Q rest (a.put o.dst undef) w') :
    wpList P ops Q (o :: rest) a w := by
  refine wpList_store_row hgd ty x y ho g cells hx hy t old hg (by rw [hi, hn]) (by omega) (by simpa using h1) (h _ (setRow_heap w g old cells t (0, 0) hg) (fun j v hj => ?_) (fun k hk => setRow_other w g k cells hk) (by simp [World.setRow]) ?_)
  · rw [cell_setRow_same w g j old cells t (0, 0) hg]; exact hj
  · exact hw.trans ⟨rfl, rfl, rfl, by simp [World.setRow], fun k hk => setRow_other _ _ _ _ (by omega)⟩

theorem infoV : (Tryz.prog.info? 24).map (·.size) = some 7 := by kernel_rfl
theorem infoP : (Tryz.prog.info? 40).map (·.size) = some 4 := by kernel_rfl

set_option maxHeartbeats 4000000 in
set_option maxRecDepth 100000 in
theorem new_any (t : ByteArray) (w : World) : Calls Tryz.prog 32 #[.string t, .slice none 0 0] w fun e w' => (∃ a, e = .returned (.iface 106 (.pointer (some a)))) ∧ Below w.heap.size w w' := by
  go_enter Tryz.func32, Tryz.ntmps32
  go_wp2
  go_returns
  exact ⟨⟨_, rfl⟩, by go_grown⟩

end Go.Proofs.YtdcgoaikfbbneaaGreatDoor.ints
