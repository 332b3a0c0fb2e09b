/- The text form's reader: parseFieldName at a name with a colon behind it. -/
import Derived.Test.YtpneioocmpagmaaGreatDoorTq
import Derived.Test.YtpneioocmpagmaaGreatDoorTe
namespace Go.Proofs.YtpneioocmpagmaaGreatDoor.tx
open Go.RowKit
set_option linter.unusedVariables false
set_option linter.unusedSimpArgs false

theorem keeps_set {q : Nat} {a b : World} (h : Keeps q a b) (p : Addr) (hp : a.heap.size ≤ p.block) (v : Value) : Keeps q a (b.setCell p v) := by
  refine ⟨h.os, h.tape, h.output, by simpa using h.size, fun i hi hq => ?_⟩
  rw [blk_other _ _ _ (by omega)]
  exact h.block i hi hq

set_option maxHeartbeats 4000000 in
set_option maxRecDepth 100000 in
theorem field_done (A B C q b L cap oo oc : Nat) (T : List UInt8) (hx : Cx q b L cap T) (t : Tok) (sv : Value) (pos p : Nat) (u : FrameMode) (w : World) (hs : St q b L cap oo oc T w t sv pos) (hlt : pos < L) (hch : (T.getD pos 0).toNat = 58) (hsk : Sk T (pos + 1) p)
    (hA : w.cell? ⟨A, 0, none⟩ = some (.pointer (some ⟨q, 0, none⟩))) (hC : w.cell? ⟨C, 0, none⟩ = some .nilIface) (z : Nat) (hB : w.cell? ⟨B, 1, none⟩ = some (.int .u8 z)) (hBf : w.frozen? ⟨B, 1, none⟩ = false) (hqB : ¬ q = B) :
    CallsD Tryz.prog 101 #[.pointer (some ⟨C, 0, none⟩), .pointer (some ⟨A, 0, none⟩), .pointer (some ⟨B, 0, none⟩)] u w fun e u' w' => u' = u ∧ (e = .returned (.tuple #[]) ∧ ∃ w1, w' = w1.setCell ⟨B, 1, none⟩ (.int .u8 (bits .or .u8 z 128)) ∧ St q b L cap oo oc T w1 t sv p ∧ Keeps q w w1) := by
  have HT := Lib.hid (try_yes 58 q b L cap oo oc T hx t sv pos p w hs hlt hch hsk)
  have hBl : B < w.heap.size := cell_lt hB
  clear hs hx hlt hch hsk
  go_enter_d Tryz.func101, Tryz.ntmps101
  go_wp2_with fail
  refine HT.out.mono ?_
  rintro e w1 ⟨rfl, hs1, hk1⟩
  have hB1 : w1.cell? ⟨B, 1, none⟩ = some (.int .u8 z) := (hk1.cell (p := ⟨B, 1, none⟩) hBl (fun e => hqB e.symm)).trans hB
  have hBf1 : w1.frozen? ⟨B, 1, none⟩ = false := (hk1.frozen (p := ⟨B, 1, none⟩) hBl (fun e => hqB e.symm)).trans hBf
  have H1 := Lib.hid (And.intro hs1 hk1)
  clear hs1 hk1 hB hBf hA hC
  go_wp2_with fail
  go_end0
  exact ⟨rfl, _, rfl, H1.out.1, H1.out.2⟩

set_option maxHeartbeats 8000000 in
set_option maxRecDepth 100000 in
theorem field_name (q b L cap oo oc : Nat) (T : List UInt8) (hx : Cx q b L cap T) (t : Tok) (sv : Value) (pos m p1 p : Nat) (w : World) (hs : St q b L cap oo oc T w t sv pos) (hm : 1 ≤ m) (h0 : IdS (T.getD pos 0).toNat)
    (hall : ∀ j, j < m → IdC (T.getD (pos + j) 0).toNat) (hend : pos + m < L → Dlm (T.getD (pos + m) 0).toNat) (hsk1 : Sk T (pos + m) p1) (hlt : p1 < L) (hch : (T.getD p1 0).toNat = 58) (hsk : Sk T (p1 + 1) p) (hle : pos + m ≤ L) :
    Calls Tryz.prog 77 #[.pointer (some ⟨q, 0, none⟩)] w fun e w' =>
      Gave w q b L cap oo oc T t sv p 2 129 0 pos m ⟨#[]⟩ .nilIface e w' := by
  have hmf : ∀ (fn : Fn) (first cap : Array Value) (w : World), (Instr.makeFunc fn first cap).run Tryz.prog w = .ok (.func fn first cap) w := fun _ _ _ _ => rfl
  obtain ⟨off, n, c, hin, hd, hr, hq⟩ := id hs
  have hbq := hx.hbq
  have HI := Lib.hid (fun (W : World) (hW : Below w.heap.size w W) => ident_yes b L cap pos off n c m T hx.hT hx.hL hx.hcap hx.hL47 hin false hm hle h0 hall hend W (hr.below hW (by omega)))
  have HT := Lib.hid (fun (W : World) (hW : Below w.heap.size w W) => consume_token 2 1 q b L cap oo oc T hx t sv pos m p1 W (hs.below hx hW) hle hsk1)
  have HX := Lib.hid (And.intro hx (And.intro hlt (And.intro hch hsk)))
  obtain ⟨i1, i2, i3, i4⟩ := id hin
  obtain ⟨rfl, hc'⟩ := i4 (by omega)
  have c10 := dec_inv hd
  unfold inV at c10
  have hcx := cell_at hx.hT hr (p := off) (by omega)
  obtain ⟨x, hxx⟩ : ∃ x, x = (T.getD off 0).toNat := ⟨_, rfl⟩
  rw [← hxx] at hcx h0
  have x91 : ((x : Int) == 91) = false := by rw [beq_eq_false_iff_ne]; unfold IdS at h0; omega
  have hn0 : (0 : Int) < (n : Int) := by omega
  have hm0 : (0 : Int) < (m : Int) := by omega
  have hne1 : ¬ q = w.heap.size := by omega
  have hne2 : ¬ q = w.heap.size + 1 := by omega
  have hne3 : ¬ q = w.heap.size + 1 + 1 := by omega
  have hbl : b < w.heap.size := by omega
  have hbn : ¬ b = w.heap.size := by omega
  have hbn2 : ¬ b = w.heap.size + 1 := by omega
  have hbn3 : ¬ b = w.heap.size + 1 + 1 := by omega
  have hbn4 : ¬ b = w.heap.size + 2 := by omega
  have hne4 : ¬ q = w.heap.size + 2 := by omega
  have hq1 : q < w.heap.size + 1 := by omega
  have hq2 : q < w.heap.size + 1 + 1 := by omega
  have hb1 : b < w.heap.size + 1 := by omega
  have hb2 : b < w.heap.size + 1 + 1 := by omega
  have HQ := Lib.hid (And.intro hq hbq)
  clear hd hr hin hx hs i1 i2 i3 i4 hc' hxx h0 hall hend hsk1 hlt hch hsk hbq hle hm
  go_enter_defers Tryz.func77, Tryz.ntmps77
  go_wp2_with fail
  refine (HI.out _ (by go_grown)).mono ?_
  rintro e w' ⟨rfl, rfl⟩
  go_wp2_with fail
  refine (HT.out _ (by go_grown)).mono ?_
  rintro e w4 ⟨⟨t', rfl, hmk⟩, hs4, hk4⟩
  obtain ⟨o5, c5, rfl, m6, m7⟩ := mk_tok hmk
  clear hmk
  obtain ⟨W1, hW1⟩ : ∃ W1, W1 = ((w.alloc (.cells #[.pointer (some ⟨q, 0, none⟩)] 72)).alloc (.cells #[.int .u8 0, .int .u8 0, .int .u8 0, .int .i64 0, .slice none 0 0, .string ⟨#[]⟩] 76)).alloc (.cells #[.nilIface] 58) := ⟨_, rfl⟩
  rw [← hW1] at hk4
  have hs1 : W1.heap.size = w.heap.size + 3 := by rw [hW1]; simp
  have hkw1 : Keeps q w W1 := by rw [hW1]; exact Keeps.of (by go_grown)
  have hA1 : W1.cell? ⟨w.heap.size, 0, none⟩ = some (.pointer (some ⟨q, 0, none⟩)) := by rw [hW1]; go_simp
  have hC1 : W1.cell? ⟨w.heap.size + 1 + 1, 0, none⟩ = some .nilIface := by rw [hW1]; go_simp
  have hCf1 : W1.frozen? ⟨w.heap.size + 1 + 1, 0, none⟩ = false := by rw [hW1]; go_simp
  have hB1 : W1.heap[w.heap.size + 1]? = some (.cells zeroTok 76 (0, 0)) := by
    rw [hW1]
    have e := heap_alloc_new (w.alloc (.cells #[.pointer (some ⟨q, 0, none⟩)] 72)) (.cells zeroTok 76)
    rw [World.size_alloc] at e
    exact alloc_blk e
  have r1 : w4.cell? ⟨w.heap.size, 0, none⟩ = some (.pointer (some ⟨q, 0, none⟩)) := (hk4.cell (p := ⟨w.heap.size, 0, none⟩) (by show w.heap.size < _; omega) (by show ¬ w.heap.size = q; omega)).trans hA1
  have r2 : w4.cell? ⟨w.heap.size + 1 + 1, 0, none⟩ = some .nilIface := (hk4.cell (p := ⟨w.heap.size + 1 + 1, 0, none⟩) (by show w.heap.size + 1 + 1 < _; omega) (by show ¬ w.heap.size + 1 + 1 = q; omega)).trans hC1
  have r3 : w4.frozen? ⟨w.heap.size + 1 + 1, 0, none⟩ = false := (hk4.frozen (p := ⟨w.heap.size + 1 + 1, 0, none⟩) (by show w.heap.size + 1 + 1 < _; omega) (by show ¬ w.heap.size + 1 + 1 = q; omega)).trans hCf1
  have r4 : w4.heap[w.heap.size + 1]? = some (.cells zeroTok 76 (0, 0)) := (hk4.block _ (by omega) (by omega)).trans hB1
  have hkw4 : Keeps q w w4 := hkw1.trans hk4
  have hz4 : w.heap.size + 3 ≤ w4.heap.size := by have := hk4.size; omega
  have H4 := Lib.hid (And.intro (And.intro m6 m7) (And.intro hs4 (And.intro hkw4 (And.intro r1 r4))))
  clear hW1 hs1 hkw1 hA1 hC1 hCf1 hB1 hs4 hk4 m6 m7 hcx c10 x91 r1
  unfold Tok.v
  go_wp2_with ((with_reducible refine store_own ?_ 76 (.tmp 2) (.tmp 30) ?_ (w.heap.size + 1) #[.int .u8 (2 : Nat), .int .u8 (1 : Nat), .int .u8 (0 : Nat), .int .i64 off, .slice (some ⟨b, o5, none⟩) m c5, .string ⟨#[]⟩] ?_ ?_ 76 zeroTok r4 6 infoT ?_ ?_ ?_ q w hkw4 (Nat.le_succ _) ?_); rfl; rfl; rfl; rfl; rfl; rfl; rfl; (intro w5 hg5 hcs ho5 hs5 hk5); refine Hid.out ?_)
  refine Lib.hid ?_
  have oc5 : ∀ a : Addr, a.block ≠ w.heap.size + 1 → w5.cell? a = w4.cell? a ∧ w5.frozen? a = w4.frozen? a := fun a ha => by
    unfold World.cell? World.frozen?
    rw [ho5 a.block ha]
    exact ⟨rfl, rfl⟩
  have e2 : w5.cell? ⟨w.heap.size + 1 + 1, 0, none⟩ = some .nilIface := ((oc5 ⟨w.heap.size + 1 + 1, 0, none⟩ (by show ¬ w.heap.size + 1 + 1 = w.heap.size + 1; omega)).1).trans r2
  have e3 : w5.frozen? ⟨w.heap.size + 1 + 1, 0, none⟩ = false := ((oc5 ⟨w.heap.size + 1 + 1, 0, none⟩ (by show ¬ w.heap.size + 1 + 1 = w.heap.size + 1; omega)).2).trans r3
  have e1 := ((oc5 ⟨w.heap.size, 0, none⟩ (by show ¬ w.heap.size = w.heap.size + 1; omega)).1).trans H4.out.2.2.2.1
  have hz5 : w.heap.size + 3 ≤ w5.heap.size := by omega
  have hs5' : St q b L cap oo oc T w5 t sv p1 := H4.out.2.1.same (ho5 q hne2) (ho5 b (by omega)) (by omega)
  have H5 := Lib.hid (And.intro hs5' (And.intro hk5 (And.intro hg5 e1)))
  clear hs5' hk5 hg5 e1 hcs ho5 hs5 oc5 r2 r3 r4 hkw4
  have b129 : bits .or .u8 ((1 : Nat) : Int) 128 = 129 := by decide
  have HB129 := Lib.hid b129
  clear b129
  go_wp2
  refine leaves_cons (f := 101) (args := #[.pointer (some ⟨w.heap.size + 1 + 1, 0, none⟩), .pointer (some ⟨w.heap.size, 0, none⟩), .pointer (some ⟨w.heap.size + 1, 0, none⟩)]) (by simp) (by simp [go_sem]) ?_
  have hnA : (⟨w.heap.size + 1 + 1, 0, none⟩ : Addr) ≠ ⟨w.heap.size, 0, none⟩ := fun e => by have := congrArg Addr.block e; simp only at this; omega
  have hnB : ∀ j, (⟨w.heap.size + 1 + 1, 0, none⟩ : Addr) ≠ ⟨w.heap.size + 1, j, none⟩ := fun j e => by have := congrArg Addr.block e; simp only at this; omega
  have hC6 : (w5.setCell ⟨w.heap.size + 1 + 1, 0, none⟩ .nilIface).cell? ⟨w.heap.size + 1 + 1, 0, none⟩ = some .nilIface := World.cell?_setCell_same w5 _ _ e2
  have hB6 : (w5.setCell ⟨w.heap.size + 1 + 1, 0, none⟩ .nilIface).heap[w.heap.size + 1]? = w5.heap[w.heap.size + 1]? := blk_other _ _ _ (by show w.heap.size + 1 + 1 ≠ w.heap.size + 1; omega)
  refine (field_done w.heap.size (w.heap.size + 1) (w.heap.size + 1 + 1) q b L cap oo oc T HX.out.1 t sv p1 p .returning _ ?_ HX.out.2.1 HX.out.2.2.1 HX.out.2.2.2 ?_ hC6 1 ?_ ?_ hne2).mono ?_
  · exact H5.out.1.same (blk_other _ _ _ (by show w.heap.size + 1 + 1 ≠ q; omega)) (blk_other _ _ _ (by show w.heap.size + 1 + 1 ≠ b; omega)) (by simp)
  · rw [World.cell?_setCell_other w5 _ _ _ hnA]; exact H5.out.2.2.2
  · rw [World.cell?_setCell_other w5 _ _ _ (hnB 1)]; exact blk_cell H5.out.2.2.1 rfl
  · have := blk_frozen H5.out.2.2.1 1
    unfold World.frozen? at this ⊢
    rw [hB6]; exact this
  rintro e u' w7 ⟨rfl, rfl, w1, rfl, hs1, hk1⟩
  have hsz1 : w.heap.size + 1 + 1 < w1.heap.size := by have := hk1.size; simp at this; omega
  have hB1 : w1.heap[w.heap.size + 1]? = some (.cells #[.int .u8 (2 : Nat), .int .u8 (1 : Nat), .int .u8 (0 : Nat), .int .i64 off, .slice (some ⟨b, o5, none⟩) m c5, .string ⟨#[]⟩] 76 (0, 0)) := ((hk1.block _ (by simp; omega) (fun e => hne2 e.symm)).trans hB6).trans H5.out.2.2.1
  have hC1 : w1.cell? ⟨w.heap.size + 1 + 1, 0, none⟩ = some .nilIface := (hk1.cell (p := ⟨w.heap.size + 1 + 1, 0, none⟩) (by simp; omega) (fun e => hne3 e.symm)).trans hC6
  rw [HB129.out]
  have hg := blk_set hB1 1 (.int .u8 129)
  have d0 : (w1.setCell ⟨w.heap.size + 1, 1, none⟩ (.int .u8 129)).cell? ⟨w.heap.size + 1, 0, none⟩ = some (.int .u8 2) := blk_cell hg rfl
  have d1 : (w1.setCell ⟨w.heap.size + 1, 1, none⟩ (.int .u8 129)).cell? ⟨w.heap.size + 1, 1, none⟩ = some (.int .u8 129) := blk_cell hg rfl
  have d2 : (w1.setCell ⟨w.heap.size + 1, 1, none⟩ (.int .u8 129)).cell? ⟨w.heap.size + 1, 2, none⟩ = some (.int .u8 0) := blk_cell hg rfl
  have d3 : (w1.setCell ⟨w.heap.size + 1, 1, none⟩ (.int .u8 129)).cell? ⟨w.heap.size + 1, 3, none⟩ = some (.int .i64 off) := blk_cell hg rfl
  have d4 : (w1.setCell ⟨w.heap.size + 1, 1, none⟩ (.int .u8 129)).cell? ⟨w.heap.size + 1, 4, none⟩ = some (.slice (some ⟨b, o5, none⟩) m c5) := blk_cell hg rfl
  have d5 : (w1.setCell ⟨w.heap.size + 1, 1, none⟩ (.int .u8 129)).cell? ⟨w.heap.size + 1, 5, none⟩ = some (.string ⟨#[]⟩) := blk_cell hg rfl
  have d6 : (w1.setCell ⟨w.heap.size + 1, 1, none⟩ (.int .u8 129)).cell? ⟨w.heap.size + 1 + 1, 0, none⟩ = some .nilIface := by rw [World.cell?_setCell_other w1 _ _ _ (fun e => hnB 1 e.symm)]; exact hC1
  have hk6 : Keeps q w (w5.setCell ⟨w.heap.size + 1 + 1, 0, none⟩ .nilIface) := keeps_set H5.out.2.1 _ (by show w.heap.size ≤ w.heap.size + 1 + 1; omega) _
  have hfin : Gave w q b L cap oo oc T t sv p 2 129 0 off m ⟨#[]⟩ .nilIface (.returned (.tuple #[(⟨2, 129, 0, off, .slice (some ⟨b, o5, none⟩) m c5, ⟨#[]⟩⟩ : Tok).v, .nilIface])) (w1.setCell ⟨w.heap.size + 1, 1, none⟩ (.int .u8 129)) :=
    ⟨⟨_, rfl, rfl, rfl, rfl, rfl, ⟨o5, c5, rfl, H4.out.1.1, H4.out.1.2⟩, rfl⟩, hs1.same (blk_other _ _ _ (fun e => hne2 e.symm)) (blk_other _ _ _ (fun e => hbn2 e.symm)) (by simp), keeps_set (hk6.trans hk1) _ (by show w.heap.size ≤ w.heap.size + 1; omega) _⟩
  have HFIN := Lib.hid hfin
  clear hfin hg hB1 hC1 hk6 hs1 hk1 hC6 hB6 hnA hnB
  simp [Leaves, settle, results, Tryz.results77, go_sem, d0, d1, d2, d3, d4, d5, d6]
  exact HFIN.out

end Go.Proofs.YtpneioocmpagmaaGreatDoor.tx

