/- The JSON reader: parseNext and Read at a number. -/
import Derived.Test.YtdeehmjdbjlfkaaGreatDoorGb
import Derived.Test.YtdeehmjdbjlfkaaGreatDoorJx
namespace Go.Proofs.YtdeehmjdbjlfkaaGreatDoor.jn
open Go.RowKit Go.Proofs.YtdeehmjdbjlfkaaGreatDoor.js
set_option linter.unusedVariables false
set_option linter.unusedSimpArgs false

/-- A byte that begins a number. -/
def NumHead (c : Nat) : Prop := c = 45 ∨ c = 48 ∨ c = 49 ∨ c = 50 ∨ c = 51 ∨ c = 52 ∨ c = 53 ∨ c = 54 ∨ c = 55 ∨ c = 56 ∨ c = 57

set_option maxHeartbeats 80000000 in
set_option maxRecDepth 100000 in
theorem next_number (q b L cap pos off n c k e0 : Nat) (p : Int) (raw : Value) (bo : Bool) (s0 : ByteArray) (sv : Value) (oo on oc : Nat) (T : List UInt8) (hT : T.length = L) (hL : L ≤ cap) (hcap : cap ≤ 9223372036854775807) (hL47 : L ≤ 140737488355000) (hon : on = L) (hv : InAt b L cap pos off n c) (w : World) (hq : q < w.heap.size) (hbq : b < q)
    (hd : DecAt w q k p raw bo s0 sv (.slice (some ⟨b, oo, none⟩) on oc) (inV b off n c)) (hr : RowM w b 0 T)
    (hhead : NumHead (at_ T (skip T pos))) (hpn : pn T (skip T pos) = some e0) (he0 : skip T pos ≤ e0) (he1 : e0 ≤ L) (hlt : skip T pos < L) :
    Calls Tryz.prog 52 #[.pointer (some ⟨q, 0, none⟩)] w fun e w' =>
      (∃ c', c' = cap - skip T pos ∧ e = .returned (.tuple #[tokV 8 (skip T pos) (.slice (some ⟨b, skip T pos, none⟩) (e0 - skip T pos) c') false ⟨#[]⟩, .nilIface])) ∧ Took w q b L cap T e0 k p raw bo s0 sv (.slice (some ⟨b, oo, none⟩) on oc) w' := by
  have c9 := blk_cell (j := 9) hd rfl
  obtain ⟨P0, hP0⟩ : ∃ P0, P0 = skip T pos := ⟨_, rfl⟩
  obtain ⟨size, hsize⟩ : ∃ size, size = e0 - P0 := ⟨_, rfl⟩
  have HC := Lib.hid (fun W (hW : Below w.heap.size w W) => consume q b L cap pos off n c 0 T hT (Nat.zero_le _) hL hcap hv W ((hW.cell (p := ⟨q, 9, none⟩) hq).trans c9) ((hW.frozen (p := ⟨q, 9, none⟩) hq).trans (blk_frozen hd 9)) (hr.below hW (by omega)) (by omega))
  have HD := Lib.hid (fun W (hW : Below w.heap.size w W) => (hW.block q hq).trans hd)
  have HR := Lib.hid hr
  rw [← hP0] at hhead hpn he0 hlt
  have HT := Lib.hid (And.intro hT (And.intro hP0 (And.intro hsize (And.intro hon hpn))))
  unfold inV at c9
  rw [← hP0, ← hsize]
  rw [Nat.add_zero, ← hP0] at HC
  have HHD := Lib.hid hhead
  clear hd hr hv hT hP0 hsize hon hpn hhead
  go_enter Tryz.func52, Tryz.ntmps52
  go_wp2_with fail
  refine (HC.out _ (by go_grown)).mono ?_
  rintro e w2 ⟨rfl, off', n', c', hin, rfl⟩
  have hnn : P0 + n' = L := hin.1
  obtain ⟨ho', hc'⟩ : off' = P0 ∧ c' = cap - P0 := hin.2.2.2 (by omega)
  subst ho'
  have hnc : n' ≤ c' := hin.2.1
  have hcc : c' ≤ cap := hin.2.2.1
  obtain ⟨W2, hW2⟩ : ∃ W2, W2 = (w.alloc (.cells #[.int .u16 0, .int .i64 0, .slice none 0 0, .bool false, .string ⟨#[]⟩] 70)).setCell ⟨q, 9, none⟩ (.slice (some ⟨b, off', none⟩) n' c') := ⟨_, rfl⟩
  have hs2 : W2.heap.size = w.heap.size + 1 := by rw [hW2]; simp
  have hk2 : Keeps q w W2 := by rw [hW2]; exact (Keeps.of (by go_grown)).setCell 9 _
  have hd2 : DecAt W2 q k p raw bo s0 sv (.slice (some ⟨b, oo, none⟩) on oc) (inV b off' n' c') := by rw [hW2]; exact dec_in (HD.out _ (by go_grown)) _
  have hr2 : RowM W2 b 0 T := hk2.row HR.out (by omega) (by omega)
  have hR2 : W2.heap[w.heap.size]? = some (.cells zeroTok 70 (0, 0)) := by
    rw [hW2]
    have e := ((Keeps.refl q (w.alloc (.cells zeroTok 70))).setCell 9 (.slice (some ⟨b, off', none⟩) n' c')).block w.heap.size (by simp) (by omega)
    exact e.trans (heap_alloc_new w _)
  rw [← hW2]
  have HIN := Lib.hid hin
  have hx : W2.cell? ⟨b, off', none⟩ = some (.int .u8 ((at_ T off' : Nat) : Int)) := cell_at HT.out.1 hr2 hlt
  have k9 : W2.cell? ⟨q, 9, none⟩ = some (.slice (some ⟨b, off', none⟩) n' c') := blk_cell hd2 rfl
  have HPS := Lib.hid (parse_number b L cap off' n' c' T HT.out.1 hL hcap hL47 (by omega) hnn hc' W2 hr2)
  have hsay : ∀ e, Says off' (pn T off') e → e = .returned (.tuple #[.int .i64 (size : Int), .bool true]) := fun e h => by
    rw [HT.out.2.2.2.2] at h
    rw [HT.out.2.2.1]
    exact h
  have HSAY := Lib.hid hsay
  have H2 := Lib.hid (And.intro hk2 (And.intro hd2 (And.intro hr2 hR2)))
  have hq2' : q < W2.heap.size := by omega
  have HCS := Lib.hid (consume_token 8 q b L cap off' off' n' c' size k p raw bo s0 sv oo on oc T HT.out.1 (by rw [HT.out.2.2.1]; omega) hL hcap HT.out.2.2.2.1 hin W2 hq2' hbq hd2 hr2)
  have HSE : Hid (off' + size = e0) := Lib.hid (by rw [HT.out.2.2.1]; omega)
  have q0 : ((n' : Int) == 0) = false := by rw [beq_eq_false_iff_ne]; omega
  have q1 : (0 : Int) < (n' : Int) := by omega
  have HNN := Lib.hid (And.intro hnn hc')
  obtain ⟨x, hxx⟩ : ∃ x, x = at_ T off' := ⟨_, rfl⟩
  have hhd := HHD.out
  rw [← hxx] at hx hhd
  clear hW2 hin hk2 hd2 hr2 hR2 hnn hc' hxx hsay
  unfold NumHead at hhd
  have hR4' : Hid (∀ w4, Keeps q W2 w4 → w4.heap[w.heap.size]? = some (.cells zeroTok 70 (0, 0))) := Lib.hid (fun w4 hk4 => (hk4.block _ (by omega) (by omega)).trans H2.out.2.2.2)
  rcases hhd with rfl | rfl | rfl | rfl | rfl | rfl | rfl | rfl | rfl | rfl | rfl
  all_goals as_aux_lemma =>
    go_wp2_with fail
    refine HPS.out.mono ?_
    rintro e w3 ⟨hsy, rfl⟩
    obtain rfl := HSAY.out e hsy
    clear hsy
    go_wp2_with fail
    refine HCS.out.mono ?_
    rintro e w4 ⟨rfl, hk4, off4, n4, c4, hin4, hd4⟩
    have hR4 := hR4'.out w4 hk4
    have hk04 := H2.out.1.trans hk4
    have H4 := Lib.hid (And.intro hin4 hd4)
    clear hk4 hin4 hd4
    unfold tokV
    go_wp2_with ((with_reducible refine store_own ?_ 70 (.tmp 2) (.tmp 74) ?_ w.heap.size #[.int .u16 (8 : Nat), .int .i64 off', .slice (some ⟨b, off', none⟩) size c', .bool false, .string ⟨#[]⟩] ?_ ?_ 70 zeroTok hR4 5 infoT ?_ ?_ ?_ q w hk04 (Nat.le_refl _) ?_); rfl; rfl; rfl; rfl; rfl; rfl; rfl; (intro w5 hg5 hcs ho5 hs5 hk5); have c0 := hcs 0 _ rfl; have c1 := hcs 1 _ rfl; have c2 := hcs 2 _ rfl; have c3 := hcs 3 _ rfl; have c4' := hcs 4 _ rfl; have H5 := Lib.hid (And.intro ho5 hk5); clear hcs ho5 hs5 hk5 hg5; refine Hid.out ?_)
    refine Lib.hid ?_
    go_wp2
    refine bodyPost_ret (v := .tuple #[tokV 8 off' (.slice (some ⟨b, off', none⟩) size c') false ⟨#[]⟩, .nilIface]) (by simp [results, Tryz.results52, go_sem, c0, c1, c2, c3, c4', tokV]) rfl ⟨⟨_, HNN.out.2, rfl⟩, H5.out.2, off4, n4, c4, by rw [← HSE.out]; exact H4.out.1, ?_⟩
    exact (H5.out.1 q (by omega)).trans H4.out.2

end Go.Proofs.YtdeehmjdbjlfkaaGreatDoor.jn
