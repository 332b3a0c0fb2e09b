/- The text form's reader: parseNext at the beginning, behind a name, at the end. -/
import Derived.Test.YtpneioocmpagmaaGreatDoorTr
namespace Go.Proofs.YtpneioocmpagmaaGreatDoor.tx
open Go.RowKit
set_option linter.unusedVariables false
set_option linter.unusedSimpArgs false

/-- What a walk lays when it stores the token that a callee gave. -/
theorem gave_lay {w W w4 : World} {q b L cap oo oc : Nat} {T : List UInt8} {t t' : Tok} {sv : Value} {p kd ats na pos size : Nat} {s : ByteArray} (hW : Keeps q w W) (hWr : W.heap[w.heap.size]? = some (.cells zeroTok 76 (0, 0))) (hq : q < w.heap.size)
    (hs : St q b L cap oo oc T w4 t sv p) (hk : Keeps q W w4) : Keeps q w w4 ∧ w4.heap[w.heap.size]? = some (.cells zeroTok 76 (0, 0)) ∧ w.heap.size < w4.heap.size := by
  have hz : w.heap.size < W.heap.size := (Array.getElem?_eq_some_iff.1 hWr).1
  have := hk.size
  exact ⟨hW.trans hk, (hk.block _ hz (by omega)).trans hWr, by omega⟩


set_option maxHeartbeats 8000000 in
set_option maxRecDepth 100000 in
theorem next_field (q b L cap oo oc : Nat) (T : List UInt8) (hx : Cx q b L cap T) (t : Tok) (sv : Value) (pos p0 p kd ats na size : Nat) (s : ByteArray) (w : World) (hs : St q b L cap oo oc T w t sv pos) (hsk : Sk T pos p0) (hlt : p0 < L)
    (hg : ∀ W, St q b L cap oo oc T W t sv p0 → Calls Tryz.prog 77 #[.pointer (some ⟨q, 0, none⟩)] W fun e w' => Gave W q b L cap oo oc T t sv p kd ats na p0 size s .nilIface e w') :
    Calls Tryz.prog 52 #[.pointer (some ⟨q, 0, none⟩), .int .u8 0] w fun e w' => Gave w q b L cap oo oc T t sv p kd ats na p0 size s .nilIface e w' := by
  have hq : q < w.heap.size := by obtain ⟨_, _, _, _, _, _, h⟩ := id hs; exact h
  have hpl := hs.pos_le
  have HC := Lib.hid (fun (W : World) (hW : Below w.heap.size w W) => dconsume q b L cap oo oc T hx t sv pos 0 p0 W (hs.below hx hW) (by omega) (by simpa using hsk))
  have HG := Lib.hid hg
  have HLT := Lib.hid (And.intro hlt hx.hbq)
  have hne1 : ¬ q = w.heap.size := by omega
  have hbl : b < w.heap.size := by have := hx.hbq; omega
  clear hs hx hg hsk hlt hpl
  go_enter Tryz.func52, Tryz.ntmps52
  go_wp2_with fail
  refine (HC.out _ (by go_grown)).mono ?_
  rintro e w2 ⟨rfl, hs2, v, hw2⟩
  have hR2 : w2.heap[w.heap.size]? = some (.cells zeroTok 76 (0, 0)) := by rw [hw2, blk_other _ _ _ hne1]; exact heap_alloc_new w _
  have hk2 : Keeps q w w2 := by rw [hw2]; exact (Keeps.of (by go_grown)).setCell 10 _
  obtain ⟨off, n, c, hin, hd, hr, hq2⟩ := id hs2
  have c10 := dec_inv hd
  unfold inV at c10
  have hn0 : ((n : Int) == 0) = false := by rw [beq_eq_false_iff_ne]; have := hin.1; have := HLT.out.1; omega
  have H2 := Lib.hid (And.intro hs2 (And.intro hk2 hR2))
  clear hs2 hw2 hR2 hk2 hd hr hin
  go_wp2_with fail
  refine (HG.out _ H2.out.1).mono ?_
  rintro e w4 ⟨⟨t', rfl, hmk⟩, hs4, hk4⟩
  obtain ⟨o5, c5, rfl, m6, m7⟩ := mk_tok hmk
  clear hmk c10 hn0
  have hlay := gave_lay (t' := t) (kd := kd) (ats := ats) (na := na) (pos := p0) (size := size) (s := s) H2.out.2.1 H2.out.2.2 hq hs4 hk4
  obtain ⟨hkw4, hR4, hz4⟩ := hlay
  have H4 := Lib.hid (And.intro (And.intro m6 m7) (And.intro hs4 hkw4))
  clear hs4 hk4 m6 m7
  unfold Tok.v
  go_wp2_with ((with_reducible refine store_own ?_ 76 (.tmp 4) (.tmp 49) ?_ w.heap.size #[.int .u8 kd, .int .u8 ats, .int .u8 na, .int .i64 p0, .slice (some ⟨b, o5, none⟩) size c5, .string s] ?_ ?_ 76 zeroTok hR4 6 infoT ?_ ?_ ?_ q w hkw4 (Nat.le_refl _) ?_); rfl; rfl; rfl; rfl; rfl; rfl; rfl; (intro w7 hg7 hcs ho7 hs7 hk7); refine Hid.out ?_)
  refine Lib.hid ?_
  have c0 := hcs 0 _ rfl
  have c1 := hcs 1 _ rfl
  have c2 := hcs 2 _ rfl
  have c3 := hcs 3 _ rfl
  have c4 := hcs 4 _ rfl
  have c5' := hcs 5 _ rfl
  have HG7 := Lib.hid (And.intro ho7 (And.intro hs7 hk7))
  clear hg7 hcs ho7 hs7 hk7 hkw4 hR4
  go_wp2
  refine bodyPost_ret (v := .tuple #[(⟨kd, ats, na, p0, .slice (some ⟨b, o5, none⟩) size c5, s⟩ : Tok).v, .nilIface]) (by simp [results, Tryz.results52, go_sem, Tok.v, c0, c1, c2, c3, c4, c5']) rfl ⟨⟨_, rfl, rfl, rfl, rfl, rfl, ⟨o5, c5, rfl, H4.out.1.1, H4.out.1.2⟩, rfl⟩, ?_, HG7.out.2.2⟩
  exact H4.out.2.1.same (HG7.out.1 q hne1) (HG7.out.1 b (by omega)) (by have := HG7.out.2.1; omega)

set_option maxHeartbeats 8000000 in
set_option maxRecDepth 100000 in
theorem next_scalar (q b L cap oo oc : Nat) (T : List UInt8) (hx : Cx q b L cap T) (t : Tok) (sv : Value) (pos p0 p kd ats na size : Nat) (s : ByteArray) (w : World) (hs : St q b L cap oo oc T w t sv pos) (hsk : Sk T pos p0) (hlt : p0 < L) (hch : (T.getD p0 0).toNat ≠ 123 ∧ (T.getD p0 0).toNat ≠ 60 ∧ (T.getD p0 0).toNat ≠ 91)
    (hg : ∀ W, Keeps q w W → St q b L cap oo oc T W t sv p0 → Calls Tryz.prog 79 #[.pointer (some ⟨q, 0, none⟩)] W fun e w' => Gave W q b L cap oo oc T t sv p kd ats na p0 size s .nilIface e w') :
    Calls Tryz.prog 52 #[.pointer (some ⟨q, 0, none⟩), .int .u8 2] w fun e w' => Gave w q b L cap oo oc T t sv p kd ats na p0 size s .nilIface e w' := by
  have hq : q < w.heap.size := by obtain ⟨_, _, _, _, _, _, h⟩ := id hs; exact h
  have hpl := hs.pos_le
  have HC := Lib.hid (fun (W : World) (hW : Below w.heap.size w W) => dconsume q b L cap oo oc T hx t sv pos 0 p0 W (hs.below hx hW) (by omega) (by simpa using hsk))
  have HG := Lib.hid hg
  have HLT := Lib.hid (And.intro hlt hx.hbq)
  have HCH := Lib.hid (And.intro hch hx.hT)
  have hne1 : ¬ q = w.heap.size := by omega
  have hbl : b < w.heap.size := by have := hx.hbq; omega
  clear hs hx hg hsk hlt hpl hch
  go_enter Tryz.func52, Tryz.ntmps52
  go_wp2_with fail
  refine (HC.out _ (by go_grown)).mono ?_
  rintro e w2 ⟨rfl, hs2, v, hw2⟩
  have hR2 : w2.heap[w.heap.size]? = some (.cells zeroTok 76 (0, 0)) := by rw [hw2, blk_other _ _ _ hne1]; exact heap_alloc_new w _
  have hk2 : Keeps q w w2 := by rw [hw2]; exact (Keeps.of (by go_grown)).setCell 10 _
  obtain ⟨off, n, c, hin, hd, hr, hq2⟩ := id hs2
  have c10 := dec_inv hd
  unfold inV at c10
  have hn0 : ((n : Int) == 0) = false := by rw [beq_eq_false_iff_ne]; have := hin.1; have := HLT.out.1; omega
  obtain ⟨rfl, hcc⟩ := hin.2.2.2 (by have := hin.1; have := HLT.out.1; omega)
  have hcx := cell_at HCH.out.2 hr HLT.out.1
  obtain ⟨x, hxx⟩ : ∃ x, x = (T.getD off 0).toNat := ⟨_, rfl⟩
  have hch := HCH.out.1
  rw [← hxx] at hcx hch
  have x1 : ((x : Int) == 123) = false := by rw [beq_eq_false_iff_ne]; omega
  have x2 : ((x : Int) == 60) = false := by rw [beq_eq_false_iff_ne]; omega
  have x3 : ((x : Int) == 91) = false := by rw [beq_eq_false_iff_ne]; omega
  have x0 : (0 : Int) < (n : Int) := by have := hin.1; have := HLT.out.1; omega
  clear hch hxx hcc
  have H2 := Lib.hid (And.intro hs2 (And.intro hk2 hR2))
  clear hs2 hw2 hR2 hk2 hd hr hin
  go_wp2_with fail
  refine (HG.out _ H2.out.2.1 H2.out.1).mono ?_
  rintro e w4 ⟨⟨t', rfl, hmk⟩, hs4, hk4⟩
  obtain ⟨o5, c5, rfl, m6, m7⟩ := mk_tok hmk
  clear hmk c10 hn0 x0 x1 x2 x3 hcx
  have hlay := gave_lay (t' := t) (kd := kd) (ats := ats) (na := na) (pos := off) (size := size) (s := s) H2.out.2.1 H2.out.2.2 hq hs4 hk4
  obtain ⟨hkw4, hR4, hz4⟩ := hlay
  have H4 := Lib.hid (And.intro (And.intro m6 m7) (And.intro hs4 hkw4))
  clear hs4 hk4 m6 m7
  unfold Tok.v
  go_wp2_with ((with_reducible refine store_own ?_ 76 (.tmp 4) (.tmp 65) ?_ w.heap.size #[.int .u8 kd, .int .u8 ats, .int .u8 na, .int .i64 off, .slice (some ⟨b, o5, none⟩) size c5, .string s] ?_ ?_ 76 zeroTok hR4 6 infoT ?_ ?_ ?_ q w hkw4 (Nat.le_refl _) ?_); rfl; rfl; rfl; rfl; rfl; rfl; rfl; (intro w7 hg7 hcs ho7 hs7 hk7); refine Hid.out ?_)
  refine Lib.hid ?_
  have c0 := hcs 0 _ rfl
  have c1 := hcs 1 _ rfl
  have c2 := hcs 2 _ rfl
  have c3 := hcs 3 _ rfl
  have c4 := hcs 4 _ rfl
  have c5' := hcs 5 _ rfl
  have HG7 := Lib.hid (And.intro ho7 (And.intro hs7 hk7))
  clear hg7 hcs ho7 hs7 hk7 hkw4 hR4
  go_wp2
  refine bodyPost_ret (v := .tuple #[(⟨kd, ats, na, off, .slice (some ⟨b, o5, none⟩) size c5, s⟩ : Tok).v, .nilIface]) (by simp [results, Tryz.results52, go_sem, Tok.v, c0, c1, c2, c3, c4, c5']) rfl ⟨⟨_, rfl, rfl, rfl, rfl, rfl, ⟨o5, c5, rfl, H4.out.1.1, H4.out.1.2⟩, rfl⟩, ?_, HG7.out.2.2⟩
  exact H4.out.2.1.same (HG7.out.1 q hne1) (HG7.out.1 b (by omega)) (by have := HG7.out.2.1; omega)

set_option maxHeartbeats 8000000 in
set_option maxRecDepth 100000 in
theorem next_end (q b L cap oo oc : Nat) (T : List UInt8) (hx : Cx q b L cap T) (t : Tok) (pos : Nat) (w : World) (hs : St q b L cap oo oc T w t (.slice none 0 0) pos) (hsk : Sk T pos L) :
    Calls Tryz.prog 52 #[.pointer (some ⟨q, 0, none⟩), .int .u8 3] w fun e w' => Gave w q b L cap oo oc T t (.slice none 0 0) L 1 0 0 L 0 ⟨#[]⟩ .nilIface e w' := by
  have hq : q < w.heap.size := by obtain ⟨_, _, _, _, _, _, h⟩ := id hs; exact h
  have hpl := hs.pos_le
  have HC := Lib.hid (fun (W : World) (hW : Below w.heap.size w W) => dconsume q b L cap oo oc T hx t (.slice none 0 0) pos 0 L W (hs.below hx hW) (by omega) (by simpa using hsk))
  have HG := Lib.hid (fun (W : World) (hW : St q b L cap oo oc T W t (.slice none 0 0) L) => consume_token 1 0 q b L cap oo oc T hx t (.slice none 0 0) L 0 L W hW (Nat.le_refl _) (.stop L (fun h => by have := hx.hT; omega)))
  have hne1 : ¬ q = w.heap.size := by omega
  have hbl : b < w.heap.size := by have := hx.hbq; omega
  clear hs hx hsk hpl
  go_enter Tryz.func52, Tryz.ntmps52
  go_wp2_with fail
  refine (HC.out _ (by go_grown)).mono ?_
  rintro e w2 ⟨rfl, hs2, v, hw2⟩
  have hR2 : w2.heap[w.heap.size]? = some (.cells zeroTok 76 (0, 0)) := by rw [hw2, blk_other _ _ _ hne1]; exact heap_alloc_new w _
  have hk2 : Keeps q w w2 := by rw [hw2]; exact (Keeps.of (by go_grown)).setCell 10 _
  obtain ⟨off, n, c, hin, hd, hr, hq2⟩ := id hs2
  have c10 := dec_inv hd
  unfold inV at c10
  have c8 := dec_sv hd
  obtain rfl : n = 0 := by have := hin.1; omega
  have H2 := Lib.hid (And.intro hs2 (And.intro hk2 hR2))
  clear hs2 hw2 hR2 hk2 hd hr hin
  go_wp2_with (go_at_call 80; go_in)
  refine (HG.out _ H2.out.1).mono ?_
  rintro e w4 ⟨⟨t', rfl, hmk⟩, hs4, hk4⟩
  obtain ⟨o5, c5, rfl, m6, m7⟩ := mk_tok hmk
  clear hmk c10 c8
  have hlay := gave_lay (t' := t) (kd := 1) (ats := 0) (na := 0) (pos := L) (size := 0) (s := ⟨#[]⟩) H2.out.2.1 H2.out.2.2 hq hs4 hk4
  obtain ⟨hkw4, hR4, hz4⟩ := hlay
  have H4 := Lib.hid (And.intro (And.intro m6 m7) (And.intro hs4 hkw4))
  clear hs4 hk4 m6 m7
  unfold Tok.v
  go_wp2_with ((with_reducible refine store_own ?_ 76 (.tmp 4) (.tmp 94) ?_ w.heap.size #[.int .u8 (1 : Nat), .int .u8 (0 : Nat), .int .u8 (0 : Nat), .int .i64 L, .slice (some ⟨b, o5, none⟩) 0 c5, .string ⟨#[]⟩] ?_ ?_ 76 zeroTok hR4 6 infoT ?_ ?_ ?_ q w hkw4 (Nat.le_refl _) ?_); rfl; rfl; rfl; rfl; rfl; rfl; rfl; (intro w7 hg7 hcs ho7 hs7 hk7); refine Hid.out ?_)
  refine Lib.hid ?_
  have c0 := hcs 0 _ rfl
  have c1 := hcs 1 _ rfl
  have c2 := hcs 2 _ rfl
  have c3 := hcs 3 _ rfl
  have c4 := hcs 4 _ rfl
  have c5' := hcs 5 _ rfl
  have HG7 := Lib.hid (And.intro ho7 (And.intro hs7 hk7))
  clear hg7 hcs ho7 hs7 hk7 hkw4 hR4
  go_wp2
  refine bodyPost_ret (v := .tuple #[(⟨1, 0, 0, L, .slice (some ⟨b, o5, none⟩) 0 c5, ⟨#[]⟩⟩ : Tok).v, .nilIface]) (by simp [results, Tryz.results52, go_sem, Tok.v, c0, c1, c2, c3, c4, c5']) rfl ⟨⟨_, rfl, rfl, rfl, rfl, rfl, ⟨o5, c5, rfl, H4.out.1.1, H4.out.1.2⟩, rfl⟩, ?_, HG7.out.2.2⟩
  exact H4.out.2.1.same (HG7.out.1 q hne1) (HG7.out.1 b (by omega)) (by have := HG7.out.2.1; omega)


end Go.Proofs.YtpneioocmpagmaaGreatDoor.tx

