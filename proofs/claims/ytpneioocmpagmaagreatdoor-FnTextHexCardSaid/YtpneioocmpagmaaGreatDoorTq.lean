/- The text form's reader: parseScalar at a whole number that ends the text. -/
import Derived.Test.YtpneioocmpagmaaGreatDoorTo
namespace Go.Proofs.YtpneioocmpagmaaGreatDoor.tx
open Go.RowKit
set_option linter.unusedVariables false
set_option linter.unusedSimpArgs false

theorem digit_not_ids {x : Nat} (h : 48 ≤ x ∧ x ≤ 57) : ¬ IdS x := by unfold IdS; omega

set_option maxHeartbeats 8000000 in
set_option maxRecDepth 100000 in
theorem literal_no (q b L cap oo oc : Nat) (T : List UInt8) (hx : Cx q b L cap T) (t : Tok) (sv : Value) (pos p1 : Nat) (neg : Bool) (hi : IntAt T L pos p1 neg) (w : World) (hs : St q b L cap oo oc T w t sv pos) :
    Calls Tryz.prog 109 #[.pointer (some ⟨q, 0, none⟩)] w fun e w' => e = .returned (.tuple #[tok0.v, .bool false]) ∧ Below w.heap.size w w' := by
  obtain ⟨off, n, c, hin, hd, hr, hq⟩ := id hs
  have hbq := hx.hbq
  have hlt := intAt_pos hi
  have HN : Hid (∀ W, Below w.heap.size w W → Calls Tryz.prog 104 #[.slice (some ⟨b, off, none⟩) n c, .bool true] W fun e w' => e = .returned (.int .i64 0) ∧ W = w') := Lib.hid (fun W hW => by
    have hrW := hr.below hW (by omega)
    rcases hi.sign with ⟨_, h1, h2⟩ | ⟨_, h1, h2⟩
    · have := hi.digit pos (by omega) hlt
      exact ident_no b L cap pos off n c T hx.hT hin hlt true (digit_not_ids this) (.inr (by omega)) W hrW
    · have := hi.digit p1 (Nat.le_refl _) hi.lt
      rw [h1] at this
      exact ident_neg_no b L cap pos off n c T hx.hT hx.hL hx.hcap hin (by have := hi.lt; omega) h2 (digit_not_ids this) W hrW)
  have c10 := dec_inv hd
  unfold inV at c10
  have hne1 : ¬ q = w.heap.size := by omega
  clear hd hr hin hx hs hi hlt hbq
  go_enter Tryz.func109, Tryz.ntmps109
  go_wp2_with fail
  refine (HN.out _ (by go_grown)).mono ?_
  rintro e w' ⟨rfl, rfl⟩
  go_wp2_with fail
  refine bodyPost_ret (v := .tuple #[tok0.v, .bool false]) (by simp [results, Tryz.results109, go_sem, Tok.v, tok0]) rfl ⟨rfl, by go_grown⟩

/-- What a token that was read leaves. -/
def Gave (w : World) (q b L cap oo oc : Nat) (T : List UInt8) (t : Tok) (sv : Value) (p kd ats na pos size : Nat) (s : ByteArray) (last : Value) (e : Ending) (w' : World) : Prop :=
  (∃ t' : Tok, e = .returned (.tuple #[t'.v, last]) ∧ MkTok t' b pos size kd ats na s) ∧ St q b L cap oo oc T w' t sv p ∧ Keeps q w w'

theorem mk_tok {t' : Tok} {b pos size kd ats na : Nat} {s : ByteArray} (h : MkTok t' b pos size kd ats na s) : ∃ o c, t' = ⟨kd, ats, na, pos, .slice (some ⟨b, o, none⟩) size c, s⟩ ∧ size ≤ c ∧ (0 < size → o = pos) := by
  obtain ⟨h1, h2, h3, h4, ⟨o, c, h5, h6, h7⟩, h8⟩ := h
  refine ⟨o, c, ?_, h6, h7⟩
  obtain ⟨a1, a2, a3, a4, a5, a6⟩ := t'
  simp only at h1 h2 h3 h4 h5 h8
  subst h1 h2 h3 h4 h5 h8
  rfl

/-- The reader stands where a store into the call's own block was made behind a new block. -/
theorem st_after {q b L cap oo oc F : Nat} {T : List UInt8} {w4 w7 : World} {o : Obj} {t : Tok} {sv : Value} {pos : Nat} (h : St q b L cap oo oc T w4 t sv pos) (ho : ∀ k, k ≠ F → w7.heap[k]? = (w4.alloc o).heap[k]?) (hs : w7.heap.size = (w4.alloc o).heap.size) (hq : q ≠ F ∧ b < q) (hb : b ≠ F) : St q b L cap oo oc T w7 t sv pos := by
  obtain ⟨_, _, _, _, _, _, h4⟩ := id h
  refine h.same ((ho q hq.1).trans (Below.heap_alloc _ _ _ h4)) ((ho b hb).trans (Below.heap_alloc _ _ _ (by omega))) (by rw [hs]; simp)

set_option maxHeartbeats 8000000 in
set_option maxRecDepth 100000 in
theorem scalar_int (q b L cap oo oc : Nat) (T : List UInt8) (hx : Cx q b L cap T) (t : Tok) (sv : Value) (pos p1 : Nat) (neg : Bool) (hi : IntAt T L pos p1 neg) (w : World) (hs : St q b L cap oo oc T w t sv pos) :
    Calls Tryz.prog 79 #[.pointer (some ⟨q, 0, none⟩)] w fun e w' =>
      Gave w q b L cap oo oc T t sv L 3 1 (if neg then 128 else 0) pos (L - pos) ⟨(part T pos (L - pos)).toArray⟩ .nilIface e w' := by
  obtain ⟨off, n, c, hin, hd, hr, hq⟩ := id hs
  have hbq := hx.hbq
  have hlt := intAt_pos hi
  have HL := Lib.hid (fun (W : World) (hW : Below w.heap.size w W) => literal_no q b L cap oo oc T hx t sv pos p1 neg hi W (hs.below hx hW))
  have HV := Lib.hid (fun (W : World) (hW : Below w.heap.size w W) => number_value q b L cap oo oc T hx t sv pos p1 neg hi W (hs.below hx hW))
  obtain ⟨i1, i2, i3, i4⟩ := id hin
  obtain ⟨rfl, hc'⟩ := i4 (by omega)
  have c10 := dec_inv hd
  unfold inV at c10
  have hcx := cell_at hx.hT hr hlt
  have hch : (48 ≤ (T.getD off 0).toNat ∧ (T.getD off 0).toNat ≤ 57) ∨ (T.getD off 0).toNat = 45 := by
    rcases hi.sign with ⟨_, h1, h2⟩ | ⟨_, h1, h2⟩
    · exact .inl (hi.digit off (by omega) hlt)
    · exact .inr h2
  obtain ⟨x, hxx⟩ : ∃ x, x = (T.getD off 0).toNat := ⟨_, rfl⟩
  rw [← hxx] at hcx hch
  have x34 : ((x : Int) == 34) = false := by rw [beq_eq_false_iff_ne]; omega
  have x39 : ((x : Int) == 39) = false := by rw [beq_eq_false_iff_ne]; omega
  have hn0 : (0 : Int) < (n : Int) := by omega
  have hne1 : ¬ q = w.heap.size := by omega
  have hbl : b < w.heap.size := by omega
  have hbn : ¬ b = w.heap.size := by omega
  have HQ := Lib.hid (And.intro hq hbq)
  obtain ⟨na, hna⟩ : ∃ na, na = (if neg then 128 else 0) := ⟨_, rfl⟩
  obtain ⟨sz, hsz⟩ : ∃ sz : ByteArray, sz = ⟨(part T off (L - off)).toArray⟩ := ⟨_, rfl⟩
  obtain ⟨size, hsize⟩ : ∃ size, size = L - off := ⟨_, rfl⟩
  rw [← hna, ← hsz, ← hsize] at HV ⊢
  clear hd hr hin hx hs hi hlt i1 i2 i3 i4 hc' hxx hch hbq hna hsz hsize
  go_enter Tryz.func79, Tryz.ntmps79
  go_wp2_with fail
  refine (HL.out _ (by go_grown)).mono ?_
  rintro e w2 ⟨rfl, hb2⟩
  have hbw2 : Below w.heap.size w w2 := ((Below.refl _ _).alloc (Nat.le_refl _) _).trans (hb2.mono (by simp))
  have hR2 : w2.heap[w.heap.size]? = some (.cells zeroTok 76 (0, 0)) := (hb2.block w.heap.size (by simp)).trans (heap_alloc_new w _)
  have hs2 : w.heap.size < w2.heap.size := by have := hb2.size; simp at this; omega
  have HB2 := Lib.hid (And.intro hbw2 hR2)
  clear hb2 hbw2 hR2 c10 hcx x34 x39
  unfold tok0 Tok.v
  go_wp2_with fail
  refine (HV.out _ (HB2.out.1.alloc (Nat.le_of_lt hs2) _)).mono ?_
  rintro e w4 ⟨⟨t', rfl, hmk⟩, hs4, hk4⟩
  obtain ⟨o5, c5, rfl, m6, m7⟩ := mk_tok hmk
  clear hmk
  have hR4 : w4.heap[w.heap.size]? = some (.cells zeroTok 76 (0, 0)) := (hk4.block w.heap.size (by simp; omega) (fun e => hne1 e.symm)).trans (alloc_blk HB2.out.2)
  have hkw4 : Keeps q w w4 := (Keeps.of (HB2.out.1.alloc (Nat.le_of_lt hs2) _)).trans hk4
  have hw4 : w.heap.size < w4.heap.size := by have := hk4.size; simp at this; omega
  have H4 := Lib.hid (And.intro (And.intro m6 m7) (And.intro hs4 (And.intro hkw4 hR4)))
  clear hs4 hk4 hkw4 hR4 m6 m7
  unfold Tok.v
  go_wp2_with ((with_reducible refine store_own ?_ 76 (.tmp 2) (.tmp 41) ?_ w.heap.size #[.int .u8 (3 : Nat), .int .u8 (1 : Nat), .int .u8 na, .int .i64 off, .slice (some ⟨b, o5, none⟩) size c5, .string sz] ?_ ?_ 76 zeroTok (alloc_blk H4.out.2.2.2) 6 infoT ?_ ?_ ?_ q w (H4.out.2.2.1.trans (Keeps.of ((Below.refl _ _).alloc (Nat.le_refl _) _))) (Nat.le_refl _) ?_); rfl; rfl; rfl; rfl; rfl; rfl; rfl; (intro w7 hg7 hcs ho7 hs7 hk7); refine Hid.out ?_)
  refine Lib.hid ?_
  have c0 := hcs 0 _ rfl
  have c1 := hcs 1 _ rfl
  have c2 := hcs 2 _ rfl
  have c3 := hcs 3 _ rfl
  have c4 := hcs 4 _ rfl
  have c5' := hcs 5 _ rfl
  have HG7 := Lib.hid (And.intro ho7 (And.intro hs7 hk7))
  clear hg7 hcs ho7 hs7 hk7
  go_wp2
  refine bodyPost_ret (v := .tuple #[(⟨3, 1, na, off, .slice (some ⟨b, o5, none⟩) size c5, sz⟩ : Tok).v, .nilIface]) (by simp [results, Tryz.results79, go_sem, Tok.v, c0, c1, c2, c3, c4, c5']) rfl ⟨⟨_, rfl, rfl, rfl, rfl, rfl, ⟨o5, c5, rfl, H4.out.1.1, H4.out.1.2⟩, rfl⟩, ?_, HG7.out.2.2⟩
  exact st_after H4.out.2.1 HG7.out.1 HG7.out.2.1 (by have := HQ.out; omega) (by have := HQ.out; omega)

end Go.Proofs.YtpneioocmpagmaaGreatDoor.tx

