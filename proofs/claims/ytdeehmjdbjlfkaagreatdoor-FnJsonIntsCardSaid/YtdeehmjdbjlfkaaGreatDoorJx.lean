/- The JSON reader: Read at a string that stands alone, and at the end behind it. -/
import Derived.Test.YtdeehmjdbjlfkaaGreatDoorJv
import Derived.Laws.CopyRow
namespace Go.Proofs.YtdeehmjdbjlfkaaGreatDoor.js
open Go.RowKit
set_option linter.unusedVariables false
set_option linter.unusedSimpArgs false

theorem run_storeVar_seg {P : Program} (w : World) (g o : Nat) (t ty : TypeId) (old cells : Array Value) (hg : w.heap[g]? = some (.cells old t (0, 0))) (hi : (P.info? ty).map (·.size) = some cells.size)
    (hfit : o + cells.size ≤ old.size) (h1 : cells.all (·.oneCell') = true) :
    (storeVar ty ⟨g, o, none⟩ (.agg cells)).run P w = .ok () (w.setRow g (old.toList.take o ++ cells.toList ++ old.toList.drop (o + cells.size)).toArray) := by
  obtain ⟨i, hq, hs⟩ := Option.map_eq_some_iff.1 hi
  have := run_storeCells_at P g o t cells.toList 0 old w hg (by simpa using hfit) (fun v hv => (Array.all_eq_true_iff_forall_mem.1 h1) v (by simpa using hv))
  simp only [Nat.add_zero, Array.length_toList] at this
  simp [storeVar, sizeOf, typeInfo, hq, Value.cells, hs, this]

/-- A whole struct stored into a part of a block. -/
theorem store_seg {P : Program} {ops : Array Oper} {rest : List Oper} {o : Oper} {a : Act} {w : World} {Q : Exit → Act → World → Prop} (hgd : o.guard = none) (ty : TypeId) (x y : Operand) (ho : o.op = .store ty x y)
    (g at_ : Nat) (cells : Array Value) (hx : a.eval x = .pointer (some ⟨g, at_, none⟩)) (hy : a.eval y = .agg cells)
    (t : TypeId) (old new : Array Value) (hg : w.heap[g]? = some (.cells old t (0, 0))) (n : Nat) (hi : (P.info? ty).map (·.size) = some n) (hn : cells.size = n) (hfit : at_ + cells.size ≤ old.size) (h1 : cells.toList.all (·.oneCell') = true)
    (hnew : (old.toList.take at_ ++ cells.toList ++ old.toList.drop (at_ + cells.size)).toArray = new) (W : World) (hW : Keeps g W w)
    (h : ∀ w', w'.heap[g]? = some (.cells new t (0, 0)) → (∀ k, k ≠ g → w'.heap[k]? = w.heap[k]?) → w'.heap.size = w.heap.size → Keeps g W w' → wpList P ops Q rest (a.put o.dst undef) w') :
    wpList P ops Q (o :: rest) a w := by
  refine wpList_plain hgd fun K hK => ?_
  unfold Oper.wp execOp
  simp only [ho, hx, hy, Instr.storeAt, Instr.sureAddr, Sem.run_bind, Sem.run_pure, Result.andThen_ok, run_storeVar_seg w g at_ t ty old cells hg (by rw [hi, hn]) hfit (by simpa using h1)]
  refine hK _ _ ?_
  rw [hnew]
  refine h _ (setRow_heap w g old new t (0, 0) hg) (fun k hk => setRow_other w g k new hk) (by simp [World.setRow]) ?_
  exact ⟨hW.os, hW.tape, hW.output, by simpa [World.setRow] using hW.size, fun i hi hq => (setRow_other _ _ _ _ (fun e => hq e)).trans (hW.block i hi hq)⟩

theorem alloc_blk {w : World} {o o' : Obj} {k : Nat} (h : w.heap[k]? = some o') : (w.alloc o).heap[k]? = some o' := by
  have hk := (Array.getElem?_eq_some_iff.1 h).1
  rw [Below.heap_alloc _ _ _ hk]; exact h

set_option maxHeartbeats 4000000 in
set_option maxRecDepth 100000 in
theorem read_done (b1 q : Nat) (x : Value) (u : FrameMode) (w : World) (h1 : w.cell? ⟨b1, 0, none⟩ = some (.pointer (some ⟨q, 0, none⟩))) (h0 : w.cell? ⟨q, 0, none⟩ = some x) (hf : w.frozen? ⟨q, 0, none⟩ = false) :
    CallsD Tryz.prog 51 #[.pointer (some ⟨b1, 0, none⟩)] u w fun e u' w' => u' = u ∧ (e = .returned (.tuple #[]) ∧ w' = w.setCell ⟨q, 0, none⟩ (.int .u8 0)) := by
  go_enter_d Tryz.func51, Tryz.ntmps51
  go_wp2
  go_end0
  exact ⟨rfl, rfl⟩

set_option maxHeartbeats 8000000 in
set_option maxRecDepth 100000 in
theorem read_string (q b L cap pos off n c : Nat) (p : Int) (raw : Value) (bo : Bool) (s0 : ByteArray) (oo on oc : Nat) (T rest m ot : List UInt8) (hT : T.length = L) (hL : L ≤ cap) (hcap : cap ≤ 9223372036854775807) (hL47 : L ≤ 140737488355000) (hon : on = L) (hv : InAt b L cap pos off n c) (w : World) (hq : q < w.heap.size) (hbq : b < q)
    (hd : DecAt w q 0 p raw bo s0 (.slice none 0 0) (.slice (some ⟨b, oo, none⟩) on oc) (inV b off n c)) (hr : RowM w b 0 T)
    (hm : T.drop (skip T pos) = 34 :: m) (hju : Ju rest m ot) (hvm : Lib.validD m = true) (hE : ∀ w', Below q w w' → DecEnv w') :
    Calls Tryz.prog 29 #[.pointer (some ⟨q, 0, none⟩)] w fun e w' =>
      ∃ c', e = .returned (.tuple #[tokV 16 (skip T pos) (.slice (some ⟨b, skip T pos, none⟩) (m.length + 1 - rest.length) c') false ⟨ot.toArray⟩, .nilIface]) ∧
        Took w q b L cap T (skip T pos + (m.length + 1 - rest.length)) 16 (skip T pos) (.slice (some ⟨b, skip T pos, none⟩) (m.length + 1 - rest.length) c') false ⟨ot.toArray⟩ (.slice none 0 0) (.slice (some ⟨b, oo, none⟩) on oc) w' := by
  have hmf : ∀ (fn : Fn) (first cap : Array Value) (w : World), (Instr.makeFunc fn first cap).run Tryz.prog w = .ok (.func fn first cap) w := fun _ _ _ _ => rfl
  have c0 : w.cell? ⟨q, 0, none⟩ = some (.int .u8 0) := blk_cell hd rfl
  have HN := Lib.hid (fun W (hW : Below w.heap.size w W) => next_string q b L cap pos off n c 0 p raw bo s0 (.slice none 0 0) oo on oc T rest m ot hT hL hcap hL47 hon hv W (Nat.lt_of_lt_of_le hq hW.size) hbq ((hW.block q hq).trans hd) (hW.row hr (by omega)) hm hju hvm (fun w' hw' => hE w' ((hW.mono (Nat.le_of_lt hq)).trans hw')))
  obtain ⟨P0, hP0⟩ : ∃ P0, P0 = skip T pos := ⟨_, rfl⟩
  obtain ⟨size, hsize⟩ : ∃ size, size = m.length + 1 - rest.length := ⟨_, rfl⟩
  rw [← hP0, ← hsize] at HN ⊢
  clear hd hr hv hm hju hvm hE hT hP0 hsize hon
  go_enter_defers Tryz.func29, Tryz.ntmps29
  go_wp2_with fail
  refine (HN.out _ (by go_grown)).mono ?_
  rintro e w2 ⟨⟨c', rfl⟩, hk2, off', n', c'', hin, hd2⟩
  obtain ⟨W1, hW1⟩ : ∃ W1, W1 = (w.alloc (.cells #[.pointer (some ⟨q, 0, none⟩)] 64)).alloc (.cells #[.int .u16 0, .int .i64 0, .slice none 0 0, .bool false, .string ⟨#[]⟩] 70) := ⟨_, rfl⟩
  have hs1 : W1.heap.size = w.heap.size + 2 := by rw [hW1]; simp
  have hkw1 : Keeps q w W1 := by rw [hW1]; exact Keeps.of (by go_grown)
  have hR1 : W1.cell? ⟨w.heap.size, 0, none⟩ = some (.pointer (some ⟨q, 0, none⟩)) := by rw [hW1]; simp
  have hR2 : W1.heap[w.heap.size + 1]? = some (.cells zeroTok 70 (0, 0)) := by
    rw [hW1]
    have e := heap_alloc_new (w.alloc (.cells #[.pointer (some ⟨q, 0, none⟩)] 64)) (.cells zeroTok 70)
    rw [World.size_alloc] at e
    exact e
  rw [← hW1] at hk2
  have r1 : w2.cell? ⟨w.heap.size, 0, none⟩ = some (.pointer (some ⟨q, 0, none⟩)) := (hk2.cell (p := ⟨w.heap.size, 0, none⟩) (by show w.heap.size < _; omega) (by show ¬ w.heap.size = q; omega)).trans hR1
  have r2 : w2.heap[w.heap.size + 1]? = some (.cells zeroTok 70 (0, 0)) := (hk2.block _ (by omega) (by omega)).trans hR2
  have hs2 : w.heap.size + 2 ≤ w2.heap.size := by have := hk2.size; omega
  have hkw2 : Keeps q w w2 := hkw1.trans hk2
  have k1 : w2.cell? ⟨q, 1, none⟩ = some (.int .u16 (0 : Nat)) := blk_cell hd2 rfl
  have k7 : w2.cell? ⟨q, 7, none⟩ = some (.slice none 0 0) := blk_cell hd2 rfl
  have hq2 : q < w2.heap.size := by omega
  have hlt1 : w.heap.size < w2.heap.size := by omega
  have hlt2 : w.heap.size + 1 < w2.heap.size := by omega
  have H2 := Lib.hid (And.intro hkw2 (And.intro hd2 (And.intro hin r2)))
  have HG2 : Hid (w2.heap[q]? = some (.cells (decRow 0 p raw bo s0 (.slice none 0 0) (.slice (some ⟨b, oo, none⟩) on oc) (inV b off' n' c'')) 100 (0, 0))) := Lib.hid hd2
  clear hk2 hW1 hkw1 hR1 hR2 hs1 hd2 hin hkw2 r2 c0
  unfold tokV
  go_wp2_with (first | (go_at_call 53; go_in) | ((with_reducible refine store_seg ?_ 70 (.tmp 294) (.tmp 292) ?_ q 1 #[.int .u16 16, .int .i64 P0, .slice (some ⟨b, P0, none⟩) size c', .bool false, .string ⟨ot.toArray⟩] ?_ ?_ 100 (decRow 0 p raw bo s0 (.slice none 0 0) (.slice (some ⟨b, oo, none⟩) on oc) (inV b off' n' c'')) (decRow 16 P0 (.slice (some ⟨b, P0, none⟩) size c') false ⟨ot.toArray⟩ (.slice none 0 0) (.slice (some ⟨b, oo, none⟩) on oc) (inV b off' n' c'')) (alloc_blk HG2.out) 5 infoT ?_ ?_ ?_ ?_ w (H2.out.1.trans (Keeps.of ((Below.refl _ _).alloc (Nat.le_refl _) _))) ?_); rfl; rfl; rfl; rfl; rfl; (show 1 + 5 ≤ 10; omega); rfl; rfl; (intro w5 hg5 ho5 hs5 hk5); refine Hid.out ?_))
  refine Lib.hid ?_
  have oc5 : ∀ a : Addr, a.block ≠ q → w5.cell? a = (w2.alloc (.cells #[.int .u16 16, .int .i64 P0, .slice (some ⟨b, P0, none⟩) size c', .bool false, .string ⟨ot.toArray⟩] 70)).cell? a := fun a ha => by
    unfold World.cell?
    rw [ho5 a.block ha]
  have r1' : w5.cell? ⟨w.heap.size, 0, none⟩ = some (.pointer (some ⟨q, 0, none⟩)) := by
    rw [oc5 _ (by show ¬ w.heap.size = q; omega), World.cell?_alloc_lt w2 _ _ hlt1]; exact r1
  have e0 : w5.cell? ⟨w2.heap.size, 0, none⟩ = some (.int .u16 16) := by rw [oc5 _ (by show ¬ w2.heap.size = q; omega)]; simp
  have e1 : w5.cell? ⟨w2.heap.size, 1, none⟩ = some (.int .i64 P0) := by rw [oc5 _ (by show ¬ w2.heap.size = q; omega)]; simp
  have e2 : w5.cell? ⟨w2.heap.size, 2, none⟩ = some (.slice (some ⟨b, P0, none⟩) size c') := by rw [oc5 _ (by show ¬ w2.heap.size = q; omega)]; simp
  have e3 : w5.cell? ⟨w2.heap.size, 3, none⟩ = some (.bool false) := by rw [oc5 _ (by show ¬ w2.heap.size = q; omega)]; simp
  have e4 : w5.cell? ⟨w2.heap.size, 4, none⟩ = some (.string ⟨ot.toArray⟩) := by rw [oc5 _ (by show ¬ w2.heap.size = q; omega)]; simp
  have kk1 : w5.cell? ⟨q, 1, none⟩ = some (.int .u16 16) := blk_cell hg5 rfl
  have r2' : w5.heap[w.heap.size + 1]? = some (.cells zeroTok 70 (0, 0)) := by
    rw [ho5 _ (by omega)]; exact alloc_blk H2.out.2.2.2
  have H5 := Lib.hid (And.intro hg5 hk5)
  clear hg5 ho5 hs5 oc5 k1 k7 r1
  go_wp2_with ((with_reducible refine store_own ?_ 70 (.tmp 2) (.tmp 305) ?_ (w.heap.size + 1) #[.int .u16 16, .int .i64 P0, .slice (some ⟨b, P0, none⟩) size c', .bool false, .string ⟨ot.toArray⟩] ?_ ?_ 70 zeroTok r2' 5 infoT ?_ ?_ ?_ q w hk5 (Nat.le_succ _) ?_); rfl; rfl; rfl; rfl; rfl; rfl; rfl; (intro w6 hg6 hcs ho6 hs6 hk6); refine Hid.out ?_)
  refine Lib.hid ?_
  have c0 := hcs 0 _ rfl
  have c1 := hcs 1 _ rfl
  have c2 := hcs 2 _ rfl
  have c3 := hcs 3 _ rfl
  have c4 := hcs 4 _ rfl
  have hg6' := (ho6 q (by omega)).trans H5.out.1
  have r1'' : w6.cell? ⟨w.heap.size, 0, none⟩ = some (.pointer (some ⟨q, 0, none⟩)) := by
    unfold World.cell?
    rw [ho6 _ (by show ¬ w.heap.size = w.heap.size + 1; omega)]; exact r1'
  go_wp2
  refine leaves_cons (f := 51) (args := #[.pointer (some ⟨w.heap.size, 0, none⟩)]) (by simp) (by simp [go_sem]) ?_
  refine (read_done w.heap.size q (.int .u8 0) .returning _ r1'' (blk_cell hg6' rfl) (blk_frozen hg6' 0)).mono ?_
  rintro e u' w7 ⟨rfl, rfl, rfl⟩
  have hne : ∀ j, (⟨q, 0, none⟩ : Addr) ≠ ⟨w.heap.size + 1, j, none⟩ := fun j e => by
    have := congrArg Addr.block e
    simp at this
    omega
  have d0 : (w6.setCell ⟨q, 0, none⟩ (.int .u8 0)).cell? ⟨w.heap.size + 1, 0, none⟩ = some (.int .u16 16) := by rw [World.cell?_setCell_other w6 _ _ _ (hne 0)]; exact c0
  have d1 : (w6.setCell ⟨q, 0, none⟩ (.int .u8 0)).cell? ⟨w.heap.size + 1, 1, none⟩ = some (.int .i64 P0) := by rw [World.cell?_setCell_other w6 _ _ _ (hne 1)]; exact c1
  have d2 : (w6.setCell ⟨q, 0, none⟩ (.int .u8 0)).cell? ⟨w.heap.size + 1, 2, none⟩ = some (.slice (some ⟨b, P0, none⟩) size c') := by rw [World.cell?_setCell_other w6 _ _ _ (hne 2)]; exact c2
  have d3 : (w6.setCell ⟨q, 0, none⟩ (.int .u8 0)).cell? ⟨w.heap.size + 1, 3, none⟩ = some (.bool false) := by rw [World.cell?_setCell_other w6 _ _ _ (hne 3)]; exact c3
  have d4 : (w6.setCell ⟨q, 0, none⟩ (.int .u8 0)).cell? ⟨w.heap.size + 1, 4, none⟩ = some (.string ⟨ot.toArray⟩) := by rw [World.cell?_setCell_other w6 _ _ _ (hne 4)]; exact c4
  have hfin : Took w q b L cap T (P0 + size) 16 P0 (.slice (some ⟨b, P0, none⟩) size c') false ⟨ot.toArray⟩ (.slice none 0 0) (.slice (some ⟨b, oo, none⟩) on oc) (w6.setCell ⟨q, 0, none⟩ (.int .u8 0)) :=
    ⟨hk6.setCell 0 _, off', n', c'', H2.out.2.2.1, blk_set hg6' 0 _⟩
  have HFIN := Lib.hid hfin
  clear hfin hg6' hg6 hcs
  simp [Leaves, settle, results, Tryz.results29, go_sem, d0, d1, d2, d3, d4, tokV]
  first | exact HFIN.out | exact ⟨c', rfl, HFIN.out⟩

set_option maxHeartbeats 8000000 in
set_option maxRecDepth 100000 in
theorem read_end (q b L cap pos off n c kk : Nat) (p : Int) (raw : Value) (bo : Bool) (s0 : ByteArray) (oo on oc : Nat) (T : List UInt8) (hT : T.length = L) (hL : L ≤ cap) (hcap : cap ≤ 9223372036854775807) (hon : on = L) (hv : InAt b L cap pos off n c) (w : World) (hq : q < w.heap.size) (hbq : b < q)
    (hd : DecAt w q kk p raw bo s0 (.slice none 0 0) (.slice (some ⟨b, oo, none⟩) on oc) (inV b off n c)) (hr : RowM w b 0 T) (hm : skip T pos = L)
    (hz : (bits BinOp.or IntKind.u16 (bits BinOp.or IntKind.u16 (bits BinOp.and IntKind.u16 (kk : Int) 30) 128) 512 == 0) = false) :
    Calls Tryz.prog 29 #[.pointer (some ⟨q, 0, none⟩)] w fun e w' =>
      (∃ x n c, e = .returned (.tuple #[tokV 1 L (.slice x n c) false ⟨#[]⟩, .nilIface])) ∧ Keeps q w w' := by
  have hmf : ∀ (fn : Fn) (first cap : Array Value) (w : World), (Instr.makeFunc fn first cap).run Tryz.prog w = .ok (.func fn first cap) w := fun _ _ _ _ => rfl
  have c0 : w.cell? ⟨q, 0, none⟩ = some (.int .u8 0) := blk_cell hd rfl
  have HN := Lib.hid (fun W (hW : Below w.heap.size w W) => next_end q b L cap pos off n c kk p raw bo s0 (.slice none 0 0) oo on oc T hT hL hcap hon hv W (Nat.lt_of_lt_of_le hq hW.size) hbq ((hW.block q hq).trans hd) (hW.row hr (by omega)) hm)
  clear hd hr hv hT hon hm
  go_enter_defers Tryz.func29, Tryz.ntmps29
  go_wp2_with fail
  refine (HN.out _ (by go_grown)).mono ?_
  rintro e w2 ⟨⟨off1, c1', rfl⟩, hk2, off', n', c'', hin, hd2⟩
  obtain ⟨W1, hW1⟩ : ∃ W1, W1 = (w.alloc (.cells #[.pointer (some ⟨q, 0, none⟩)] 64)).alloc (.cells #[.int .u16 0, .int .i64 0, .slice none 0 0, .bool false, .string ⟨#[]⟩] 70) := ⟨_, rfl⟩
  have hs1 : W1.heap.size = w.heap.size + 2 := by rw [hW1]; simp
  have hkw1 : Keeps q w W1 := by rw [hW1]; exact Keeps.of (by go_grown)
  have hR1 : W1.cell? ⟨w.heap.size, 0, none⟩ = some (.pointer (some ⟨q, 0, none⟩)) := by rw [hW1]; simp
  have hR2 : W1.heap[w.heap.size + 1]? = some (.cells zeroTok 70 (0, 0)) := by
    rw [hW1]
    have e := heap_alloc_new (w.alloc (.cells #[.pointer (some ⟨q, 0, none⟩)] 64)) (.cells zeroTok 70)
    rw [World.size_alloc] at e
    exact e
  rw [← hW1] at hk2
  have r1 : w2.cell? ⟨w.heap.size, 0, none⟩ = some (.pointer (some ⟨q, 0, none⟩)) := (hk2.cell (p := ⟨w.heap.size, 0, none⟩) (by show w.heap.size < _; omega) (by show ¬ w.heap.size = q; omega)).trans hR1
  have r2 : w2.heap[w.heap.size + 1]? = some (.cells zeroTok 70 (0, 0)) := (hk2.block _ (by omega) (by omega)).trans hR2
  have hs2 : w.heap.size + 2 ≤ w2.heap.size := by have := hk2.size; omega
  have hkw2 : Keeps q w w2 := hkw1.trans hk2
  have k1 : w2.cell? ⟨q, 1, none⟩ = some (.int .u16 kk) := blk_cell hd2 rfl
  have k7 : w2.cell? ⟨q, 7, none⟩ = some (.slice none 0 0) := blk_cell hd2 rfl
  have hq2 : q < w2.heap.size := by omega
  have hlt1 : w.heap.size < w2.heap.size := by omega
  have hlt2 : w.heap.size + 1 < w2.heap.size := by omega
  have H2 := Lib.hid (And.intro hkw2 (And.intro hd2 (And.intro hin r2)))
  have HG2 : Hid (w2.heap[q]? = some (.cells (decRow kk p raw bo s0 (.slice none 0 0) (.slice (some ⟨b, oo, none⟩) on oc) (inV b off' n' c'')) 100 (0, 0))) := Lib.hid hd2
  clear hk2 hW1 hkw1 hR1 hR2 hs1 hd2 hin hkw2 r2 c0
  unfold tokV
  go_wp2_with (first | (go_at_call 53; go_in) | ((with_reducible refine store_seg ?_ 70 (.tmp 294) (.tmp 292) ?_ q 1 #[.int .u16 1, .int .i64 L, .slice (some ⟨b, off1, none⟩) 0 c1', .bool false, .string ⟨#[]⟩] ?_ ?_ 100 (decRow kk p raw bo s0 (.slice none 0 0) (.slice (some ⟨b, oo, none⟩) on oc) (inV b off' n' c'')) (decRow 1 L (.slice (some ⟨b, off1, none⟩) 0 c1') false ⟨#[]⟩ (.slice none 0 0) (.slice (some ⟨b, oo, none⟩) on oc) (inV b off' n' c'')) (alloc_blk HG2.out) 5 infoT ?_ ?_ ?_ ?_ w (H2.out.1.trans (Keeps.of ((Below.refl _ _).alloc (Nat.le_refl _) _))) ?_); rfl; rfl; rfl; rfl; rfl; (show 1 + 5 ≤ 10; omega); rfl; rfl; (intro w5 hg5 ho5 hs5 hk5); refine Hid.out ?_))
  refine Lib.hid ?_
  have oc5 : ∀ a : Addr, a.block ≠ q → w5.cell? a = (w2.alloc (.cells #[.int .u16 1, .int .i64 L, .slice (some ⟨b, off1, none⟩) 0 c1', .bool false, .string ⟨#[]⟩] 70)).cell? a := fun a ha => by
    unfold World.cell?
    rw [ho5 a.block ha]
  have r1' : w5.cell? ⟨w.heap.size, 0, none⟩ = some (.pointer (some ⟨q, 0, none⟩)) := by
    rw [oc5 _ (by show ¬ w.heap.size = q; omega), World.cell?_alloc_lt w2 _ _ hlt1]; exact r1
  have e0 : w5.cell? ⟨w2.heap.size, 0, none⟩ = some (.int .u16 1) := by rw [oc5 _ (by show ¬ w2.heap.size = q; omega)]; simp
  have e1 : w5.cell? ⟨w2.heap.size, 1, none⟩ = some (.int .i64 L) := by rw [oc5 _ (by show ¬ w2.heap.size = q; omega)]; simp
  have e2 : w5.cell? ⟨w2.heap.size, 2, none⟩ = some (.slice (some ⟨b, off1, none⟩) 0 c1') := by rw [oc5 _ (by show ¬ w2.heap.size = q; omega)]; simp
  have e3 : w5.cell? ⟨w2.heap.size, 3, none⟩ = some (.bool false) := by rw [oc5 _ (by show ¬ w2.heap.size = q; omega)]; simp
  have e4 : w5.cell? ⟨w2.heap.size, 4, none⟩ = some (.string ⟨#[]⟩) := by rw [oc5 _ (by show ¬ w2.heap.size = q; omega)]; simp
  have kk1 : w5.cell? ⟨q, 1, none⟩ = some (.int .u16 1) := blk_cell hg5 rfl
  have r2' : w5.heap[w.heap.size + 1]? = some (.cells zeroTok 70 (0, 0)) := by
    rw [ho5 _ (by omega)]; exact alloc_blk H2.out.2.2.2
  have H5 := Lib.hid (And.intro hg5 hk5)
  clear hg5 ho5 hs5 oc5 k1 k7 r1
  go_wp2_with ((with_reducible refine store_own ?_ 70 (.tmp 2) (.tmp 305) ?_ (w.heap.size + 1) #[.int .u16 1, .int .i64 L, .slice (some ⟨b, off1, none⟩) 0 c1', .bool false, .string ⟨#[]⟩] ?_ ?_ 70 zeroTok r2' 5 infoT ?_ ?_ ?_ q w hk5 (Nat.le_succ _) ?_); rfl; rfl; rfl; rfl; rfl; rfl; rfl; (intro w6 hg6 hcs ho6 hs6 hk6); refine Hid.out ?_)
  refine Lib.hid ?_
  have c0 := hcs 0 _ rfl
  have c1 := hcs 1 _ rfl
  have c2 := hcs 2 _ rfl
  have c3 := hcs 3 _ rfl
  have c4 := hcs 4 _ rfl
  have hg6' := (ho6 q (by omega)).trans H5.out.1
  have r1'' : w6.cell? ⟨w.heap.size, 0, none⟩ = some (.pointer (some ⟨q, 0, none⟩)) := by
    unfold World.cell?
    rw [ho6 _ (by show ¬ w.heap.size = w.heap.size + 1; omega)]; exact r1'
  go_wp2
  refine leaves_cons (f := 51) (args := #[.pointer (some ⟨w.heap.size, 0, none⟩)]) (by simp) (by simp [go_sem]) ?_
  refine (read_done w.heap.size q (.int .u8 0) .returning _ r1'' (blk_cell hg6' rfl) (blk_frozen hg6' 0)).mono ?_
  rintro e u' w7 ⟨rfl, rfl, rfl⟩
  have hne : ∀ j, (⟨q, 0, none⟩ : Addr) ≠ ⟨w.heap.size + 1, j, none⟩ := fun j e => by
    have := congrArg Addr.block e
    simp at this
    omega
  have d0 : (w6.setCell ⟨q, 0, none⟩ (.int .u8 0)).cell? ⟨w.heap.size + 1, 0, none⟩ = some (.int .u16 1) := by rw [World.cell?_setCell_other w6 _ _ _ (hne 0)]; exact c0
  have d1 : (w6.setCell ⟨q, 0, none⟩ (.int .u8 0)).cell? ⟨w.heap.size + 1, 1, none⟩ = some (.int .i64 L) := by rw [World.cell?_setCell_other w6 _ _ _ (hne 1)]; exact c1
  have d2 : (w6.setCell ⟨q, 0, none⟩ (.int .u8 0)).cell? ⟨w.heap.size + 1, 2, none⟩ = some (.slice (some ⟨b, off1, none⟩) 0 c1') := by rw [World.cell?_setCell_other w6 _ _ _ (hne 2)]; exact c2
  have d3 : (w6.setCell ⟨q, 0, none⟩ (.int .u8 0)).cell? ⟨w.heap.size + 1, 3, none⟩ = some (.bool false) := by rw [World.cell?_setCell_other w6 _ _ _ (hne 3)]; exact c3
  have d4 : (w6.setCell ⟨q, 0, none⟩ (.int .u8 0)).cell? ⟨w.heap.size + 1, 4, none⟩ = some (.string ⟨#[]⟩) := by rw [World.cell?_setCell_other w6 _ _ _ (hne 4)]; exact c4
  have hfin : Keeps q w (w6.setCell ⟨q, 0, none⟩ (.int .u8 0)) := hk6.setCell 0 _
  have HFIN := Lib.hid hfin
  clear hfin hg6' hg6 hcs
  simp [Leaves, settle, results, Tryz.results29, go_sem, d0, d1, d2, d3, d4, tokV]
  first | exact HFIN.out | exact ⟨_, HFIN.out⟩ | exact ⟨⟨_, _, _, rfl⟩, HFIN.out⟩

end Go.Proofs.YtdeehmjdbjlfkaaGreatDoor.js
