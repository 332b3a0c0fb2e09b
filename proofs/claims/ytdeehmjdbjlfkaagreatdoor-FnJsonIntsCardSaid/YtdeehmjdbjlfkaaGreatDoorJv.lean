/- The JSON reader: parseNext at a string and at the end. -/
import Derived.Test.YtdeehmjdbjlfkaaGreatDoorJu
import Derived.Test.YtdeehmjdbjlfkaaGreatDoorJs
namespace Go.Proofs.YtdeehmjdbjlfkaaGreatDoor.js
open Go.RowKit
set_option linter.unusedVariables false
set_option linter.unusedSimpArgs false

/-- A whole row stored into a block of the call's own; what lay below stands. -/
theorem store_own {P : Program} {ops : Array Oper} {rest : List Oper} {o : Oper} {a : Act} {w : World} {Q : Exit → Act → World → Prop} (hgd : o.guard = none) (ty : TypeId) (x y : Operand) (ho : o.op = .store ty x y)
    (g : Nat) (cells : Array Value) (hx : a.eval x = .pointer (some ⟨g, 0, none⟩)) (hy : a.eval y = .agg cells)
    (t : TypeId) (old : Array Value) (hg : w.heap[g]? = some (.cells old t (0, 0))) (n : Nat) (hi : (P.info? ty).map (·.size) = some n) (hn : cells.size = n) (ho' : old.size = n) (h1 : cells.toList.all (·.oneCell') = true)
    (q : Nat) (W : World) (hW : Keeps q W w) (hR : W.heap.size ≤ g)
    (h : ∀ w', w'.heap[g]? = some (.cells cells t (0, 0)) → (∀ (j : Nat) (v : Value), cells[j]? = some v → w'.cell? ⟨g, j, none⟩ = some v) → (∀ k, k ≠ g → w'.heap[k]? = w.heap[k]?) → w'.heap.size = w.heap.size → Keeps q W w' → wpList P ops Q rest (a.put o.dst undef) w') :
    wpList P ops Q (o :: rest) a w := by
  refine wpList_store_row hgd ty x y ho g cells hx hy t old hg (by rw [hi, hn]) (by omega) (by simpa using h1) (h _ (setRow_heap w g old cells t (0, 0) hg) (fun j v hj => ?_) (fun k hk => setRow_other w g k cells hk) (by simp [World.setRow]) ?_)
  · rw [cell_setRow_same w g j old cells t (0, 0) hg]; exact hj
  · exact ⟨hW.os, hW.tape, hW.output, by simpa [World.setRow] using hW.size, fun i hi hq => (setRow_other _ _ _ _ (by omega)).trans (hW.block i hi hq)⟩

theorem infoT : (Tryz.prog.info? 70).map (·.size) = some 5 := by kernel_rfl

def zeroTok : Array Value := #[.int .u16 0, .int .i64 0, .slice none 0 0, .bool false, .string ⟨#[]⟩]

theorem _root_.Go.RowKit.Below.row {x y : World} {b o : Nat} {m : List UInt8} (h : Below x.heap.size x y) (hr : RowM x b o m) (hb : b < x.heap.size) : RowM y b o m := hr.below h hb

theorem row_drop {w : World} {b k : Nat} {T m : List UInt8} (h : RowM w b 0 T) (hm : T.drop k = m) : RowM w b k m := by
  subst hm
  intro j hj
  rw [List.length_drop] at hj
  have := h (k + j) (by omega)
  rw [Nat.zero_add] at this
  rw [this, getD_drop]

set_option maxHeartbeats 8000000 in
set_option maxRecDepth 100000 in
theorem next_string (q b L cap pos off n c k : Nat) (p : Int) (raw : Value) (bo : Bool) (s0 : ByteArray) (sv : Value) (oo on oc : Nat) (T rest m ot : List UInt8) (hT : T.length = L) (hL : L ≤ cap) (hcap : cap ≤ 9223372036854775807) (hL47 : L ≤ 140737488355000) (hon : on = L) (hv : InAt b L cap pos off n c) (w : World) (hq : q < w.heap.size) (hbq : b < q)
    (hd : DecAt w q k p raw bo s0 sv (.slice (some ⟨b, oo, none⟩) on oc) (inV b off n c)) (hr : RowM w b 0 T)
    (hm : T.drop (skip T pos) = 34 :: m) (hju : Ju rest m ot) (hvm : Lib.validD m = true) (hE : ∀ w', Below q w w' → DecEnv w') :
    Calls Tryz.prog 52 #[.pointer (some ⟨q, 0, none⟩)] w fun e w' =>
      (∃ c', e = .returned (.tuple #[tokV 16 (skip T pos) (.slice (some ⟨b, skip T pos, none⟩) (m.length + 1 - rest.length) c') false ⟨ot.toArray⟩, .nilIface])) ∧ Took w q b L cap T (skip T pos + (m.length + 1 - rest.length)) k p raw bo s0 sv (.slice (some ⟨b, oo, none⟩) on oc) w' := by
  have c9 := blk_cell (j := 9) hd rfl
  obtain ⟨P0, hP0⟩ : ∃ P0, P0 = skip T pos := ⟨_, rfl⟩
  obtain ⟨size, hsize⟩ : ∃ size, size = m.length + 1 - rest.length := ⟨_, rfl⟩
  have hmlen : P0 + (m.length + 1) = L := by
    have := congrArg List.length hm
    rw [List.length_drop, ← hP0] at this
    simp at this; omega
  have HC := Lib.hid (fun W (hW : Below w.heap.size w W) => consume q b L cap pos off n c 0 T hT (Nat.zero_le _) hL hcap hv W ((hW.cell (p := ⟨q, 9, none⟩) hq).trans c9) ((hW.frozen (p := ⟨q, 9, none⟩) hq).trans (blk_frozen hd 9)) (hr.below hW (by omega)) (by omega))
  have HD := Lib.hid (fun W (hW : Below w.heap.size w W) => (hW.block q hq).trans hd)
  have HR := Lib.hid (And.intro hr (And.intro hm (And.intro hju hvm)))
  have HE := Lib.hid hE
  have HT := Lib.hid (And.intro hT (And.intro hP0 (And.intro hsize hon)))
  unfold inV at c9
  rw [← hP0, ← hsize]
  rw [Nat.add_zero, ← hP0] at HC
  clear hd hr hv hm hju hvm hE hT hP0 hsize hon
  go_enter Tryz.func52, Tryz.ntmps52
  go_wp2_with fail
  refine (HC.out _ (by go_grown)).mono ?_
  rintro e w2 ⟨rfl, off', n', c', hin, rfl⟩
  have hnn : n' = m.length + 1 := by have := hin.1; omega
  obtain ⟨ho', hc'⟩ : off' = P0 ∧ c' = cap - P0 := hin.2.2.2 (by omega)
  subst ho'
  have hnc : n' ≤ c' := hin.2.1
  have hcc : c' ≤ cap := hin.2.2.1
  obtain ⟨W2, hW2⟩ : ∃ W2, W2 = (w.alloc (.cells #[.int .u16 0, .int .i64 0, .slice none 0 0, .bool false, .string ⟨#[]⟩] 70)).setCell ⟨q, 9, none⟩ (.slice (some ⟨b, off', none⟩) n' c') := ⟨_, rfl⟩
  have hs2 : W2.heap.size = w.heap.size + 1 := by rw [hW2]; simp
  have hk2 : Keeps q w W2 := by rw [hW2]; exact (Keeps.of (by go_grown)).setCell 9 _
  have hd2 : DecAt W2 q k p raw bo s0 sv (.slice (some ⟨b, oo, none⟩) on oc) (inV b off' n' c') := by rw [hW2]; exact dec_in (HD.out _ (by go_grown)) _
  have hr2 : RowM W2 b 0 T := hk2.row HR.out.1 (by omega) (by omega)
  have hR2 : W2.heap[w.heap.size]? = some (.cells zeroTok 70 (0, 0)) := by
    rw [hW2]
    have e := ((Keeps.refl q (w.alloc (.cells zeroTok 70))).setCell 9 (.slice (some ⟨b, off', none⟩) n' c')).block w.heap.size (by simp) (by omega)
    exact e.trans (heap_alloc_new w _)
  rw [← hW2]
  have HIN := Lib.hid hin
  have hrm : RowM W2 b off' (34 :: m) := row_drop hr2 (by rw [HT.out.2.1]; exact HR.out.2.1)
  have h34 : W2.cell? ⟨b, off', none⟩ = some (.int .u8 34) := hrm 0 (by simp)
  have k9 : W2.cell? ⟨q, 9, none⟩ = some (.slice (some ⟨b, off', none⟩) n' c') := blk_cell hd2 rfl
  have HPS := Lib.hid (parse_string m ot rest HR.out.2.2.1 HR.out.2.2.2 (.pointer (some ⟨q, 0, none⟩)) b off' c' (by omega) (by omega) (by omega) W2 (by omega) hrm (fun w' hw' => HE.out w' ((hk2.below (Nat.le_refl q) (Nat.le_of_lt hq)).trans (hw'.mono (by omega)))))
  rw [← HT.out.2.2.1, ← hnn] at HPS
  have H2 := Lib.hid (And.intro hk2 (And.intro hd2 (And.intro hr2 hR2)))
  have q0 : ((n' : Int) == 0) = false := by rw [beq_eq_false_iff_ne]; omega
  have q1 : (0 : Int) < (n' : Int) := by omega
  have HNN := Lib.hid (And.intro hnn hc')
  clear hW2 hin hk2 hd2 hr2 hR2 hrm hnn hc'
  go_wp2_with fail
  refine HPS.out.mono ?_
  rintro e w3 ⟨rfl, hb3⟩
  have hq2 : q < W2.heap.size := by omega
  have hR3 : w3.heap[w.heap.size]? = some (.cells zeroTok 70 (0, 0)) := (hb3.block _ (by omega)).trans H2.out.2.2.2
  have HCS := Lib.hid (consume_string q b L cap off' off' n' c' size k p raw bo s0 ⟨ot.toArray⟩ sv oo on oc T HT.out.1 (by rw [HT.out.2.2.1, HNN.out.1]; omega) hL hcap HT.out.2.2.2 HIN.out w3 (Nat.lt_of_lt_of_le hq2 hb3.size) hbq ((hb3.block q hq2).trans H2.out.2.1) (hb3.row H2.out.2.2.1 (by omega)))
  have H3 := Lib.hid (And.intro (H2.out.1.trans (Keeps.of hb3)) (And.intro hR3 (Nat.lt_of_lt_of_le (by omega : w.heap.size < W2.heap.size) hb3.size)))
  clear hb3 hR3
  go_wp2_with fail
  refine HCS.out.mono ?_
  rintro e w4 ⟨rfl, hk4, off4, n4, c4, hin4, hd4⟩
  have hR4 : w4.heap[w.heap.size]? = some (.cells zeroTok 70 (0, 0)) := (hk4.block _ H3.out.2.2 (by omega)).trans H3.out.2.1
  have hk04 := H3.out.1.trans hk4
  have H4 := Lib.hid (And.intro hin4 hd4)
  clear hk4 hin4 hd4
  unfold tokV
  go_wp2_with ((with_reducible refine store_own ?_ 70 (.tmp 2) (.tmp 91) ?_ w.heap.size #[.int .u16 16, .int .i64 off', .slice (some ⟨b, off', none⟩) size c', .bool false, .string ⟨ot.toArray⟩] ?_ ?_ 70 zeroTok hR4 5 infoT ?_ ?_ ?_ q w hk04 (Nat.le_refl _) ?_); rfl; rfl; rfl; rfl; rfl; rfl; rfl; (intro w5 hg5 hcs ho5 hs5 hk5); have c0 := hcs 0 _ rfl; have c1 := hcs 1 _ rfl; have c2 := hcs 2 _ rfl; have c3 := hcs 3 _ rfl; have c4' := hcs 4 _ rfl; have H5 := Lib.hid (And.intro ho5 hk5); clear hcs ho5 hs5 hk5 hg5; refine Hid.out ?_)
  refine Lib.hid ?_
  go_wp2
  refine bodyPost_ret (v := .tuple #[tokV 16 off' (.slice (some ⟨b, off', none⟩) size c') false ⟨ot.toArray⟩, .nilIface]) (by simp [results, Tryz.results52, go_sem, c0, c1, c2, c3, c4', tokV]) rfl ⟨⟨_, rfl⟩, H5.out.2, off4, n4, c4, H4.out.1, ?_⟩
  exact (H5.out.1 q (by omega)).trans H4.out.2

set_option maxHeartbeats 8000000 in
set_option maxRecDepth 100000 in
theorem next_end (q b L cap pos off n c k : Nat) (p : Int) (raw : Value) (bo : Bool) (s0 : ByteArray) (sv : Value) (oo on oc : Nat) (T : List UInt8) (hT : T.length = L) (hL : L ≤ cap) (hcap : cap ≤ 9223372036854775807) (hon : on = L) (hv : InAt b L cap pos off n c) (w : World) (hq : q < w.heap.size) (hbq : b < q)
    (hd : DecAt w q k p raw bo s0 sv (.slice (some ⟨b, oo, none⟩) on oc) (inV b off n c)) (hr : RowM w b 0 T) (hm : skip T pos = L) :
    Calls Tryz.prog 52 #[.pointer (some ⟨q, 0, none⟩)] w fun e w' =>
      (∃ off' c', e = .returned (.tuple #[tokV 1 L (.slice (some ⟨b, off', none⟩) 0 c') false ⟨#[]⟩, .nilIface])) ∧ Took w q b L cap T L k p raw bo s0 sv (.slice (some ⟨b, oo, none⟩) on oc) w' := by
  have c9 : w.cell? ⟨q, 9, none⟩ = some (.slice (some ⟨b, off, none⟩) n c) := blk_cell hd rfl
  have HC := Lib.hid (fun W (hW : Below w.heap.size w W) => consume q b L cap pos off n c 0 T hT (Nat.zero_le _) hL hcap hv W ((hW.cell (p := ⟨q, 9, none⟩) hq).trans c9) ((hW.frozen (p := ⟨q, 9, none⟩) hq).trans (blk_frozen hd 9)) (hr.below hW (by omega)) (by omega))
  have HD := Lib.hid (fun W (hW : Below w.heap.size w W) => (hW.block q hq).trans hd)
  have HR := Lib.hid hr
  have HT := Lib.hid (And.intro hT hon)
  rw [Nat.add_zero, hm] at HC
  clear hd hr hv hT hm hon
  go_enter Tryz.func52, Tryz.ntmps52
  go_wp2_with fail
  refine (HC.out _ (by go_grown)).mono ?_
  rintro e w2 ⟨rfl, off', n', c', hin, rfl⟩
  obtain rfl : n' = 0 := by have := hin.1; omega
  obtain ⟨W2, hW2⟩ : ∃ W2, W2 = (w.alloc (.cells #[.int .u16 0, .int .i64 0, .slice none 0 0, .bool false, .string ⟨#[]⟩] 70)).setCell ⟨q, 9, none⟩ (.slice (some ⟨b, off', none⟩) 0 c') := ⟨_, rfl⟩
  have hs2 : W2.heap.size = w.heap.size + 1 := by rw [hW2]; simp
  have hk2 : Keeps q w W2 := by rw [hW2]; exact (Keeps.of (by go_grown)).setCell 9 _
  have hd2 : DecAt W2 q k p raw bo s0 sv (.slice (some ⟨b, oo, none⟩) on oc) (inV b off' 0 c') := by rw [hW2]; exact dec_in (HD.out _ (by go_grown)) _
  have hr2 : RowM W2 b 0 T := hk2.row HR.out (by omega) (by omega)
  have hR2 : W2.heap[w.heap.size]? = some (.cells zeroTok 70 (0, 0)) := by
    rw [hW2]
    have e := ((Keeps.refl q (w.alloc (.cells zeroTok 70))).setCell 9 (.slice (some ⟨b, off', none⟩) 0 c')).block w.heap.size (by simp) (by omega)
    exact e.trans (heap_alloc_new w _)
  rw [← hW2]
  have k9 : W2.cell? ⟨q, 9, none⟩ = some (.slice (some ⟨b, off', none⟩) 0 c') := blk_cell hd2 rfl
  have hsk : skip T (L + 0) = skip T L := rfl
  have HCT := Lib.hid (consume_token 1 q b L cap L off' 0 c' 0 k p raw bo s0 sv oo on oc T HT.out.1 (Nat.le_refl _) hL hcap HT.out.2 hin W2 (by omega) hbq hd2 hr2)
  have H2 := Lib.hid (And.intro hk2 hR2)
  clear hW2 hin hk2 hd2 hr2 hR2
  go_wp2_with fail
  refine HCT.out.mono ?_
  rintro e w4 ⟨rfl, hk4, off4, n4, c4, hin4, hd4⟩
  have hR4 : w4.heap[w.heap.size]? = some (.cells zeroTok 70 (0, 0)) := (hk4.block _ (by omega) (by omega)).trans H2.out.2
  have hk04 := H2.out.1.trans hk4
  have H4 := Lib.hid (And.intro hin4 hd4)
  clear hk4 hin4 hd4
  unfold tokV
  go_wp2_with ((with_reducible refine store_own ?_ 70 (.tmp 2) (.tmp 23) ?_ w.heap.size #[.int .u16 (1 : Nat), .int .i64 L, .slice (some ⟨b, off', none⟩) 0 c', .bool false, .string ⟨#[]⟩] ?_ ?_ 70 zeroTok hR4 5 infoT ?_ ?_ ?_ q w hk04 (Nat.le_refl _) ?_); rfl; rfl; rfl; rfl; rfl; rfl; rfl; (intro w5 hg5 hcs ho5 hs5 hk5); have c0 := hcs 0 _ rfl; have c1 := hcs 1 _ rfl; have c2 := hcs 2 _ rfl; have c3 := hcs 3 _ rfl; have c4' := hcs 4 _ rfl; have H5 := Lib.hid (And.intro ho5 hk5); clear hcs ho5 hs5 hk5 hg5; refine Hid.out ?_)
  refine Lib.hid ?_
  go_wp2
  refine bodyPost_ret (v := .tuple #[tokV 1 L (.slice (some ⟨b, off', none⟩) 0 c') false ⟨#[]⟩, .nilIface]) (by simp [results, Tryz.results52, go_sem, c0, c1, c2, c3, c4', tokV]) rfl ⟨⟨_, _, rfl⟩, H5.out.2, off4, n4, c4, H4.out.1, ?_⟩
  exact (H5.out.1 q (by omega)).trans H4.out.2

end Go.Proofs.YtdeehmjdbjlfkaaGreatDoor.js
