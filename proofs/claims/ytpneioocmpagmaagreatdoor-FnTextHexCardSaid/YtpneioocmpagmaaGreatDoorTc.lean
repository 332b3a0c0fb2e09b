/- The text form's reader: what it holds; consume, consumeToken, tryConsumeChar. -/
import Derived.Test.YtpneioocmpagmaaGreatDoorTb
import Derived.Deep.RegionHeld3
import Derived.Deep.QuietTactic
import Derived.BigQuiet
import Derived.Outline
namespace Go.Proofs.YtpneioocmpagmaaGreatDoor.tx
open Go.RowKit
set_option linter.unusedVariables false
set_option linter.unusedSimpArgs false

/-- Where the reader and its text lie. -/
structure Cx (q b L cap : Nat) (T : List UInt8) : Prop where
  hT : T.length = L
  hL : L ≤ cap
  hcap : cap ≤ 9223372036854775807
  hL47 : L ≤ 140737488355000
  hbq : b < q

/-- A token's parts. -/
structure Tok where
  kd : Nat
  ats : Nat
  na : Nat
  p : Int
  raw : Value
  s : ByteArray

def Tok.v (t : Tok) : Value := .agg #[.int .u8 t.kd, .int .u8 t.ats, .int .u8 t.na, .int .i64 t.p, t.raw, .string t.s]

def tok0 : Tok := ⟨0, 0, 0, 0, .slice none 0 0, ⟨#[]⟩⟩

def decRow (t : Tok) (sv orig inv : Value) : Array Value :=
  #[.int .u8 0, .int .u8 t.kd, .int .u8 t.ats, .int .u8 t.na, .int .i64 t.p, t.raw, .string t.s, .nilIface, sv, orig, inv]

def DecAt (w : World) (q : Nat) (t : Tok) (sv orig inv : Value) : Prop := w.heap[q]? = some (.cells (decRow t sv orig inv) 104 (0, 0))

theorem dec_call {w : World} {q : Nat} {t : Tok} {sv orig inv : Value} (h : DecAt w q t sv orig inv) : w.cell? ⟨q, 0, none⟩ = some (.int .u8 0) := blk_cell h rfl
theorem dec_kd {w : World} {q : Nat} {t : Tok} {sv orig inv : Value} (h : DecAt w q t sv orig inv) : w.cell? ⟨q, 1, none⟩ = some (.int .u8 t.kd) := blk_cell h rfl
theorem dec_sv {w : World} {q : Nat} {t : Tok} {sv orig inv : Value} (h : DecAt w q t sv orig inv) : w.cell? ⟨q, 8, none⟩ = some sv := blk_cell h rfl
theorem dec_orig {w : World} {q : Nat} {t : Tok} {sv orig inv : Value} (h : DecAt w q t sv orig inv) : w.cell? ⟨q, 9, none⟩ = some orig := blk_cell h rfl
theorem dec_inv {w : World} {q : Nat} {t : Tok} {sv orig inv : Value} (h : DecAt w q t sv orig inv) : w.cell? ⟨q, 10, none⟩ = some inv := blk_cell h rfl

/-- The reader at pos: its last token, its stack, what is unread. -/
def St (q b L cap oo oc : Nat) (T : List UInt8) (w : World) (t : Tok) (sv : Value) (pos : Nat) : Prop :=
  ∃ off n c, InAt b L cap pos off n c ∧ DecAt w q t sv (.slice (some ⟨b, oo, none⟩) L oc) (inV b off n c) ∧ RowM w b 0 T ∧ q < w.heap.size

theorem dec_in {w : World} {q : Nat} {t : Tok} {sv orig inv : Value} (h : DecAt w q t sv orig inv) (inv' : Value) : DecAt (w.setCell ⟨q, 10, none⟩ inv') q t sv orig inv' := blk_set h 10 inv'

theorem RowM.setCell {w : World} {b o : Nat} {m : List UInt8} (h : RowM w b o m) {a : Addr} (ha : a.block ≠ b) (v : Value) : RowM (w.setCell a v) b o m :=
  fun j hj => by rw [World.cell?_setCell_other w _ _ _ (fun e => ha (by rw [e]))]; exact h j hj

theorem St.below {q b L cap oo oc : Nat} {T : List UInt8} {w w' : World} {t : Tok} {sv : Value} {pos : Nat} (hx : Cx q b L cap T) (h : St q b L cap oo oc T w t sv pos) (hb : Below w.heap.size w w') : St q b L cap oo oc T w' t sv pos := by
  obtain ⟨off, n, c, h1, h2, h3, h4⟩ := h
  have := hx.hbq
  exact ⟨off, n, c, h1, (hb.block q h4).trans h2, h3.below hb (by omega), Nat.lt_of_lt_of_le h4 hb.size⟩

theorem St.same {q b L cap oo oc : Nat} {T : List UInt8} {w w' : World} {t : Tok} {sv : Value} {pos : Nat} (h : St q b L cap oo oc T w t sv pos) (hq : w'.heap[q]? = w.heap[q]?) (hb : w'.heap[b]? = w.heap[b]?) (hs : w.heap.size ≤ w'.heap.size) : St q b L cap oo oc T w' t sv pos := by
  obtain ⟨off, n, c, h1, h2, h3, h4⟩ := h
  refine ⟨off, n, c, h1, hq.trans h2, fun j hj => ?_, by omega⟩
  rw [← h3 j hj]
  unfold World.cell?
  rw [hb]

theorem swap_set (w : World) {i : Nat} (hi : i < w.heap.size) (a : Addr) (v : Value) (o o' p p' : Obj) : ((((w.setCell a v).alloc o).alloc o').drew).heap[i]? = ((((w.alloc p).alloc p').drew).setCell a v).heap[i]? := by
  have h1 := (two_news (w.setCell a v) o o').block i (by simpa using hi)
  have h2 := (two_news w p p').block i hi
  rw [h1]
  show (w.heap.modify a.block _)[i]? = ((((w.alloc p).alloc p').drew).heap.modify a.block _)[i]?
  rw [Array.getElem?_modify, Array.getElem?_modify, h2]

theorem St.pos_le {q b L cap oo oc : Nat} {T : List UInt8} {w : World} {t : Tok} {sv : Value} {pos : Nat} (h : St q b L cap oo oc T w t sv pos) : pos ≤ L := by
  obtain ⟨off, n, c, ⟨h1, _⟩, _⟩ := h
  omega

set_option maxHeartbeats 8000000 in
set_option maxRecDepth 100000 in
theorem dconsume (q b L cap oo oc : Nat) (T : List UInt8) (hx : Cx q b L cap T) (t : Tok) (sv : Value) (pos k p : Nat) (w : World) (hs : St q b L cap oo oc T w t sv pos) (hk : pos + k ≤ L) (hsk : Sk T (pos + k) p) :
    Calls Tryz.prog 75 #[.pointer (some ⟨q, 0, none⟩), .int .i64 k] w fun e w' => e = .returned (.tuple #[]) ∧ St q b L cap oo oc T w' t sv p ∧ ∃ v, w' = w.setCell ⟨q, 10, none⟩ v := by
  obtain ⟨off, n, c, hin, hd, hr, hq⟩ := hs
  have c10 := dec_inv hd
  have f10 := blk_frozen hd 10
  have hq' := hx.hbq
  have HC := Lib.hid (tconsume b L cap pos off n c k p T hx.hT (by have := hin.1; omega) hx.hL hx.hcap hin w hr hsk)
  have H := Lib.hid (And.intro hd (And.intro hr hq))
  have HB : Hid (b ≠ q) := Lib.hid (by omega)
  unfold inV at c10
  clear hin hd hr hq hx hq'
  go_enter Tryz.func75, Tryz.ntmps75
  go_wp2_with fail
  refine HC.out.mono ?_
  rintro e w' ⟨⟨off', n', c', hin', rfl⟩, rfl⟩
  have HIN := Lib.hid hin'
  clear hin'
  go_wp2_with fail
  go_returns
  refine ⟨rfl, ⟨off', n', c', HIN.out, dec_in H.out.1 _, H.out.2.1.setCell (fun e => HB.out e.symm) _, by simpa using H.out.2.2⟩, _, rfl⟩

theorem infoT : (Tryz.prog.info? 76).map (·.size) = some 6 := by kernel_rfl

def zeroTok : Array Value := #[.int .u8 0, .int .u8 0, .int .u8 0, .int .i64 0, .slice none 0 0, .string ⟨#[]⟩]

/-- A part of the text, as a slice of block b. -/
def RawV (b pos size : Nat) (v : Value) : Prop := ∃ off c, v = .slice (some ⟨b, off, none⟩) size c ∧ size ≤ c ∧ (0 < size → off = pos)

/-- A new token's parts. -/
def MkTok (t' : Tok) (b pos size kd ats na : Nat) (s : ByteArray) : Prop := t'.kd = kd ∧ t'.ats = ats ∧ t'.na = na ∧ t'.p = pos ∧ RawV b pos size t'.raw ∧ t'.s = s

set_option maxHeartbeats 8000000 in
set_option maxRecDepth 100000 in
theorem consume_token (kd ats q b L cap oo oc : Nat) (T : List UInt8) (hx : Cx q b L cap T) (t : Tok) (sv : Value) (pos size p : Nat) (w : World) (hs : St q b L cap oo oc T w t sv pos) (hk : pos + size ≤ L) (hsk : Sk T (pos + size) p) :
    Calls Tryz.prog 76 #[.pointer (some ⟨q, 0, none⟩), .int .u8 kd, .int .i64 size, .int .u8 ats] w fun e w' =>
      (∃ t' : Tok, e = .returned t'.v ∧ MkTok t' b pos size kd ats 0 ⟨#[]⟩) ∧ St q b L cap oo oc T w' t sv p ∧ Keeps q w w' := by
  obtain ⟨off, n, c, hin, hd, hr, hq⟩ := id hs
  have HC := Lib.hid (fun W (hW : Below w.heap.size w W) => dconsume q b L cap oo oc T hx t sv pos size p W (hs.below hx hW) hk hsk)
  have HKP := Lib.hid (fun W (hW : Below w.heap.size w W) => (Keeps.refl q w).trans (Keeps.of hW))
  obtain ⟨i1, i2, i3, i4⟩ := id hin
  have t1 : (size : Int) ≤ (c : Int) := by omega
  have t2 : (0 : Int) ≤ (size : Int) := by omega
  have e1 : IntKind.i64.wrap ((L : Int) - (n : Int)) = (pos : Int) := by rw [IntKind.wrap_i64]; have := hx.hL47; omega
  have c9 := dec_orig hd
  have c10 := dec_inv hd
  unfold inV at c10
  have HK : Hid (∀ W, Below w.heap.size w W → W.cell? ⟨q, 9, none⟩ = some (.slice (some ⟨b, oo, none⟩) L oc) ∧ W.cell? ⟨q, 10, none⟩ = some (.slice (some ⟨b, off, none⟩) n c)) := Lib.hid (fun W hW => ⟨(hW.cell (p := ⟨q, 9, none⟩) hq).trans c9, (hW.cell (p := ⟨q, 10, none⟩) hq).trans c10⟩)
  have hne1 : ¬ q = w.heap.size := by omega
  have hne2 : ¬ q = w.heap.size + 1 := by omega
  have HRAW : Hid (RawV b pos size (.slice (some ⟨b, off, none⟩) size c)) := Lib.hid ⟨off, c, rfl, by omega, fun h => (i4 (by omega)).1⟩
  have HB : Hid (b < q) := Lib.hid hx.hbq
  clear hd hr hin i1 i2 i3 i4 hx hs hk hsk c9 c10
  have k9 := (HK.out w (Below.refl _ _)).1
  have k10 := (HK.out w (Below.refl _ _)).2
  go_enter Tryz.func76, Tryz.ntmps76
  go_wp2_with fail
  go_region_held3 (fun w' => w'.cell? ⟨q, 9, none⟩ = some (.slice (some ⟨b, oo, none⟩) L oc) ∧ w'.cell? ⟨q, 10, none⟩ = some (.slice (some ⟨b, off, none⟩) n c)) (first | exact HK.out _ (by go_grown) | go_keep) (fail)
  go_wp2_with fail
  refine (HC.out _ (by go_grown)).mono ?_
  rintro e w2 ⟨rfl, hs2, v, rfl⟩
  have HS2 := Lib.hid hs2
  clear hs2
  go_wp2_with fail
  refine bodyPost_ret (v := (⟨kd, ats, 0, pos, .slice (some ⟨b, off, none⟩) size c, ⟨#[]⟩⟩ : Tok).v) (by simp [results, Tryz.results76, go_sem, Tok.v]) rfl ⟨⟨_, rfl, rfl, rfl, rfl, rfl, HRAW.out, rfl⟩, ?_, ?_⟩
  · exact HS2.out.same (swap_set _ hq _ _ _ _ _ _) (swap_set _ (Nat.lt_trans HB.out hq) _ _ _ _ _ _) (by simp)
  · exact ((Keeps.refl q w).setCell 10 _).trans (Keeps.of (two_news _ _ _))

set_option maxHeartbeats 8000000 in
set_option maxRecDepth 100000 in
theorem try_yes (ch q b L cap oo oc : Nat) (T : List UInt8) (hx : Cx q b L cap T) (t : Tok) (sv : Value) (pos p : Nat) (w : World) (hs : St q b L cap oo oc T w t sv pos) (hlt : pos < L) (hch : (T.getD pos 0).toNat = ch) (hsk : Sk T (pos + 1) p) :
    Calls Tryz.prog 102 #[.pointer (some ⟨q, 0, none⟩), .int .u8 ch] w fun e w' => e = .returned (.bool true) ∧ St q b L cap oo oc T w' t sv p ∧ Keeps q w w' := by
  obtain ⟨off, n, c, hin, hd, hr, hq⟩ := id hs
  have HC := Lib.hid (fun W (hW : Below w.heap.size w W) => dconsume q b L cap oo oc T hx t sv pos 1 p W (hs.below hx hW) (by omega) hsk)
  obtain ⟨i1, i2, i3, i4⟩ := id hin
  obtain ⟨rfl, hc'⟩ := i4 (by omega)
  have c10 := dec_inv hd
  unfold inV at c10
  have hcell : w.cell? ⟨b, off, none⟩ = some (.int .u8 ((T.getD off 0).toNat : Int)) := by have := hr off (by have := hx.hT; omega); rw [Nat.zero_add] at this; exact this
  rw [hch] at hcell
  have s0 : (0 : Int) < (n : Int) := by omega
  have HK := Lib.hid (fun (W : World) (hW : Below w.heap.size w W) => hW)
  clear hs hd hr hin i1 i2 i3 i4 hx hsk hch hc'
  go_enter Tryz.func102, Tryz.ntmps102
  go_wp2_with fail
  refine (HC.out _ (by go_grown)).mono ?_
  rintro e w2 ⟨rfl, hs2, v, rfl⟩
  have HS2 := Lib.hid hs2
  clear hs2
  go_wp2_with fail
  go_returns
  exact ⟨rfl, HS2.out, (Keeps.refl q w).setCell 10 _⟩

set_option maxHeartbeats 8000000 in
set_option maxRecDepth 100000 in
theorem try_no (ch q b L cap oo oc : Nat) (T : List UInt8) (hx : Cx q b L cap T) (t : Tok) (sv : Value) (pos : Nat) (w : World) (hs : St q b L cap oo oc T w t sv pos) (hch : pos < L → (T.getD pos 0).toNat ≠ ch) :
    Calls Tryz.prog 102 #[.pointer (some ⟨q, 0, none⟩), .int .u8 ch] w fun e w' => e = .returned (.bool false) ∧ w = w' := by
  obtain ⟨off, n, c, hin, hd, hr, hq⟩ := id hs
  obtain ⟨i1, i2, i3, i4⟩ := id hin
  have c10 := dec_inv hd
  unfold inV at c10
  by_cases hn : 0 < n
  · obtain ⟨rfl, hc'⟩ := i4 hn
    have hcell : w.cell? ⟨b, off, none⟩ = some (.int .u8 ((T.getD off 0).toNat : Int)) := by have := hr off (by have := hx.hT; omega); rw [Nat.zero_add] at this; exact this
    obtain ⟨x, hxx⟩ : ∃ x, x = (T.getD off 0).toNat := ⟨_, rfl⟩
    have hne : ((x : Int) == (ch : Int)) = false := by rw [beq_eq_false_iff_ne]; have := hch (by omega); omega
    rw [← hxx] at hcell
    have s0 : (0 : Int) < (n : Int) := by omega
    clear hs hd hr hin i1 i2 i3 i4 hx hch hc' hxx
    go_enter Tryz.func102, Tryz.ntmps102
    go_wp2_with fail
    go_returns
    exact ⟨rfl, rfl⟩
  · obtain rfl : n = 0 := by omega
    clear hs hd hr hin i1 i2 i3 i4 hx hch
    go_enter Tryz.func102, Tryz.ntmps102
    go_wp2_with fail
    go_returns
    exact ⟨rfl, rfl⟩

end Go.Proofs.YtpneioocmpagmaaGreatDoor.tx

