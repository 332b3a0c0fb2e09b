/- The JSON reader: Read at a number that stands alone. -/
import Derived.Test.YtdeehmjdbjlfkaaGreatDoorGc
namespace Go.Proofs.YtdeehmjdbjlfkaaGreatDoor.jn
open Go.RowKit Go.Proofs.YtdeehmjdbjlfkaaGreatDoor.js
set_option linter.unusedVariables false
set_option linter.unusedSimpArgs false

set_option maxHeartbeats 8000000 in
set_option maxRecDepth 100000 in
theorem read_number (q b L cap pos off n c e0 : Nat) (p : Int) (raw : Value) (bo : Bool) (s0 : ByteArray) (oo on oc : Nat) (T : List UInt8) (hT : T.length = L) (hL : L ≤ cap) (hcap : cap ≤ 9223372036854775807) (hL47 : L ≤ 140737488355000) (hon : on = L) (hv : InAt b L cap pos off n c) (w : World) (hq : q < w.heap.size) (hbq : b < q)
    (hd : DecAt w q 0 p raw bo s0 (.slice none 0 0) (.slice (some ⟨b, oo, none⟩) on oc) (inV b off n c)) (hr : RowM w b 0 T)
    (hhead : NumHead (at_ T (skip T pos))) (hpn : pn T (skip T pos) = some e0) (he0 : skip T pos ≤ e0) (he1 : e0 ≤ L) (hlt : skip T pos < L) :
    Calls Tryz.prog 29 #[.pointer (some ⟨q, 0, none⟩)] w fun e w' =>
      ∃ c', c' = cap - skip T pos ∧ e = .returned (.tuple #[tokV 8 (skip T pos) (.slice (some ⟨b, skip T pos, none⟩) (e0 - skip T pos) c') false ⟨#[]⟩, .nilIface]) ∧
        Took w q b L cap T e0 8 (skip T pos) (.slice (some ⟨b, skip T pos, none⟩) (e0 - skip T pos) c') false ⟨#[]⟩ (.slice none 0 0) (.slice (some ⟨b, oo, none⟩) on oc) w' := by
  have hmf : ∀ (fn : Fn) (first cap : Array Value) (w : World), (Instr.makeFunc fn first cap).run Tryz.prog w = .ok (.func fn first cap) w := fun _ _ _ _ => rfl
  have c0 : w.cell? ⟨q, 0, none⟩ = some (.int .u8 0) := blk_cell hd rfl
  have HN := Lib.hid (fun W (hW : Below w.heap.size w W) => next_number q b L cap pos off n c 0 e0 p raw bo s0 (.slice none 0 0) oo on oc T hT hL hcap hL47 hon hv W (Nat.lt_of_lt_of_le hq hW.size) hbq ((hW.block q hq).trans hd) (hW.row hr (by omega)) hhead hpn he0 he1 hlt)
  obtain ⟨P0, hP0⟩ : ∃ P0, P0 = skip T pos := ⟨_, rfl⟩
  obtain ⟨size, hsize⟩ : ∃ size, size = e0 - P0 := ⟨_, rfl⟩
  rw [← hP0] at HN ⊢
  rw [← hsize] at HN ⊢
  clear hd hr hv hhead hpn he0 he1 hlt hT hP0 hsize hon
  go_enter_defers Tryz.func29, Tryz.ntmps29
  go_wp2_with fail
  refine (HN.out _ (by go_grown)).mono ?_
  rintro e w2 ⟨⟨c', hcc', rfl⟩, hk2, off', n', c'', hin, hd2⟩
  have HCC := Lib.hid hcc'
  clear hcc'
  obtain ⟨W1, hW1⟩ : ∃ W1, W1 = (w.alloc (.cells #[.pointer (some ⟨q, 0, none⟩)] 64)).alloc (.cells #[.int .u16 0, .int .i64 0, .slice none 0 0, .bool false, .string ⟨#[]⟩] 70) := ⟨_, rfl⟩
  have hs1 : W1.heap.size = w.heap.size + 2 := by rw [hW1]; simp
  have hkw1 : Keeps q w W1 := by rw [hW1]; exact Keeps.of (by go_grown)
  have hR1 : W1.cell? ⟨w.heap.size, 0, none⟩ = some (.pointer (some ⟨q, 0, none⟩)) := by rw [hW1]; simp
  have hR2 : W1.heap[w.heap.size + 1]? = some (.cells zeroTok 70 (0, 0)) := by
    rw [hW1]
    have e := heap_alloc_new (w.alloc (.cells #[.pointer (some ⟨q, 0, none⟩)] 64)) (.cells zeroTok 70)
    rw [World.size_alloc] at e
    exact e
  rw [← hW1] at hk2
  have r1 : w2.cell? ⟨w.heap.size, 0, none⟩ = some (.pointer (some ⟨q, 0, none⟩)) := (hk2.cell (p := ⟨w.heap.size, 0, none⟩) (by show w.heap.size < _; omega) (by show ¬ w.heap.size = q; omega)).trans hR1
  have r2 : w2.heap[w.heap.size + 1]? = some (.cells zeroTok 70 (0, 0)) := (hk2.block _ (by omega) (by omega)).trans hR2
  have hs2 : w.heap.size + 2 ≤ w2.heap.size := by have := hk2.size; omega
  have hkw2 : Keeps q w w2 := hkw1.trans hk2
  have k1 : w2.cell? ⟨q, 1, none⟩ = some (.int .u16 (0 : Nat)) := blk_cell hd2 rfl
  have k7 : w2.cell? ⟨q, 7, none⟩ = some (.slice none 0 0) := blk_cell hd2 rfl
  have hq2 : q < w2.heap.size := by omega
  have hlt1 : w.heap.size < w2.heap.size := by omega
  have hlt2 : w.heap.size + 1 < w2.heap.size := by omega
  have H2 := Lib.hid (And.intro hkw2 (And.intro hd2 (And.intro hin r2)))
  have HG2 : Hid (w2.heap[q]? = some (.cells (decRow 0 p raw bo s0 (.slice none 0 0) (.slice (some ⟨b, oo, none⟩) on oc) (inV b off' n' c'')) 100 (0, 0))) := Lib.hid hd2
  clear hk2 hW1 hkw1 hR1 hR2 hs1 hd2 hin hkw2 r2 c0
  unfold tokV
  go_wp2_with (first | (go_at_call 53; go_in) | ((with_reducible refine store_seg ?_ 70 (.tmp 294) (.tmp 292) ?_ q 1 #[.int .u16 8, .int .i64 P0, .slice (some ⟨b, P0, none⟩) size c', .bool false, .string ⟨#[]⟩] ?_ ?_ 100 (decRow 0 p raw bo s0 (.slice none 0 0) (.slice (some ⟨b, oo, none⟩) on oc) (inV b off' n' c'')) (decRow 8 P0 (.slice (some ⟨b, P0, none⟩) size c') false ⟨#[]⟩ (.slice none 0 0) (.slice (some ⟨b, oo, none⟩) on oc) (inV b off' n' c'')) (alloc_blk HG2.out) 5 infoT ?_ ?_ ?_ ?_ w (H2.out.1.trans (Keeps.of ((Below.refl _ _).alloc (Nat.le_refl _) _))) ?_); rfl; rfl; rfl; rfl; rfl; (show 1 + 5 ≤ 10; omega); rfl; rfl; (intro w5 hg5 ho5 hs5 hk5); refine Hid.out ?_))
  refine Lib.hid ?_
  have oc5 : ∀ a : Addr, a.block ≠ q → w5.cell? a = (w2.alloc (.cells #[.int .u16 8, .int .i64 P0, .slice (some ⟨b, P0, none⟩) size c', .bool false, .string ⟨#[]⟩] 70)).cell? a := fun a ha => by
    unfold World.cell?
    rw [ho5 a.block ha]
  have r1' : w5.cell? ⟨w.heap.size, 0, none⟩ = some (.pointer (some ⟨q, 0, none⟩)) := by
    rw [oc5 _ (by show ¬ w.heap.size = q; omega), World.cell?_alloc_lt w2 _ _ hlt1]; exact r1
  have ee0 : w5.cell? ⟨w2.heap.size, 0, none⟩ = some (.int .u16 8) := by rw [oc5 _ (by show ¬ w2.heap.size = q; omega)]; simp
  have e1 : w5.cell? ⟨w2.heap.size, 1, none⟩ = some (.int .i64 P0) := by rw [oc5 _ (by show ¬ w2.heap.size = q; omega)]; simp
  have e2 : w5.cell? ⟨w2.heap.size, 2, none⟩ = some (.slice (some ⟨b, P0, none⟩) size c') := by rw [oc5 _ (by show ¬ w2.heap.size = q; omega)]; simp
  have e3 : w5.cell? ⟨w2.heap.size, 3, none⟩ = some (.bool false) := by rw [oc5 _ (by show ¬ w2.heap.size = q; omega)]; simp
  have e4 : w5.cell? ⟨w2.heap.size, 4, none⟩ = some (.string ⟨#[]⟩) := by rw [oc5 _ (by show ¬ w2.heap.size = q; omega)]; simp
  have kk1 : w5.cell? ⟨q, 1, none⟩ = some (.int .u16 8) := blk_cell hg5 rfl
  have r2' : w5.heap[w.heap.size + 1]? = some (.cells zeroTok 70 (0, 0)) := by
    rw [ho5 _ (by omega)]; exact alloc_blk H2.out.2.2.2
  have H5 := Lib.hid (And.intro hg5 hk5)
  clear hg5 ho5 hs5 oc5 k1 k7 r1
  go_wp2_with ((with_reducible refine store_own ?_ 70 (.tmp 2) (.tmp 305) ?_ (w.heap.size + 1) #[.int .u16 8, .int .i64 P0, .slice (some ⟨b, P0, none⟩) size c', .bool false, .string ⟨#[]⟩] ?_ ?_ 70 zeroTok r2' 5 infoT ?_ ?_ ?_ q w hk5 (Nat.le_succ _) ?_); rfl; rfl; rfl; rfl; rfl; rfl; rfl; (intro w6 hg6 hcs ho6 hs6 hk6); refine Hid.out ?_)
  refine Lib.hid ?_
  have c0 := hcs 0 _ rfl
  have c1 := hcs 1 _ rfl
  have c2 := hcs 2 _ rfl
  have c3 := hcs 3 _ rfl
  have c4 := hcs 4 _ rfl
  have hg6' := (ho6 q (by omega)).trans H5.out.1
  have r1'' : w6.cell? ⟨w.heap.size, 0, none⟩ = some (.pointer (some ⟨q, 0, none⟩)) := by
    unfold World.cell?
    rw [ho6 _ (by show ¬ w.heap.size = w.heap.size + 1; omega)]; exact r1'
  go_wp2
  refine leaves_cons (f := 51) (args := #[.pointer (some ⟨w.heap.size, 0, none⟩)]) (by simp) (by simp [go_sem]) ?_
  refine (read_done w.heap.size q (.int .u8 0) .returning _ r1'' (blk_cell hg6' rfl) (blk_frozen hg6' 0)).mono ?_
  rintro e u' w7 ⟨rfl, rfl, rfl⟩
  have hne : ∀ j, (⟨q, 0, none⟩ : Addr) ≠ ⟨w.heap.size + 1, j, none⟩ := fun j e => by
    have := congrArg Addr.block e
    simp at this
    omega
  have d0 : (w6.setCell ⟨q, 0, none⟩ (.int .u8 0)).cell? ⟨w.heap.size + 1, 0, none⟩ = some (.int .u16 8) := by rw [World.cell?_setCell_other w6 _ _ _ (hne 0)]; exact c0
  have d1 : (w6.setCell ⟨q, 0, none⟩ (.int .u8 0)).cell? ⟨w.heap.size + 1, 1, none⟩ = some (.int .i64 P0) := by rw [World.cell?_setCell_other w6 _ _ _ (hne 1)]; exact c1
  have d2 : (w6.setCell ⟨q, 0, none⟩ (.int .u8 0)).cell? ⟨w.heap.size + 1, 2, none⟩ = some (.slice (some ⟨b, P0, none⟩) size c') := by rw [World.cell?_setCell_other w6 _ _ _ (hne 2)]; exact c2
  have d3 : (w6.setCell ⟨q, 0, none⟩ (.int .u8 0)).cell? ⟨w.heap.size + 1, 3, none⟩ = some (.bool false) := by rw [World.cell?_setCell_other w6 _ _ _ (hne 3)]; exact c3
  have d4 : (w6.setCell ⟨q, 0, none⟩ (.int .u8 0)).cell? ⟨w.heap.size + 1, 4, none⟩ = some (.string ⟨#[]⟩) := by rw [World.cell?_setCell_other w6 _ _ _ (hne 4)]; exact c4
  have hfin : Took w q b L cap T e0 8 P0 (.slice (some ⟨b, P0, none⟩) size c') false ⟨#[]⟩ (.slice none 0 0) (.slice (some ⟨b, oo, none⟩) on oc) (w6.setCell ⟨q, 0, none⟩ (.int .u8 0)) :=
    ⟨hk6.setCell 0 _, off', n', c'', H2.out.2.2.1, blk_set hg6' 0 _⟩
  have HFIN := Lib.hid hfin
  clear hfin hg6' hg6 hcs
  simp [Leaves, settle, results, Tryz.results29, go_sem, d0, d1, d2, d3, d4, tokV]
  first | exact ⟨c', HCC.out, rfl, HFIN.out⟩ | exact ⟨HCC.out, by rw [← HCC.out]; exact HFIN.out⟩ | exact HFIN.out

end Go.Proofs.YtdeehmjdbjlfkaaGreatDoor.jn
