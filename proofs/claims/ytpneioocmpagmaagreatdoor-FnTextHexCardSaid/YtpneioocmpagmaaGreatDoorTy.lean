/- impl.TextScalar, from the three readings on. -/
import Derived.Test.YtpneioocmpagmaaGreatDoorTx
import Derived.Test.YtpneioocmpagmaaGreatDoorTu
import Derived.Deep.RegionWith
namespace Go.Proofs.YtpneioocmpagmaaGreatDoor.tx
open Go.RowKit
set_option linter.unusedVariables false
set_option linter.unusedSimpArgs false

theorem own_slice {w : World} {B : Nat} {v : Value} {g : List UInt8} (h : OwnB w B v g) (hne : g ≠ []) : ∃ b c, v = .slice (some ⟨b, 0, none⟩) g.length c ∧ g.length ≤ c ∧ c ≤ 9223372036854775807 ∧ B ≤ b ∧ b < w.heap.size ∧ RowM w b 0 g := by
  obtain ⟨h0, h1 | ⟨b, cap, cur, h1, h2, h3, h4, h5, h6, h7⟩⟩ := h
  · exfalso
    obtain ⟨h1, h2⟩ := h1
    exact hne (List.eq_nil_of_length_eq_zero (by first | exact h1 | exact h2 | (simp at h1; omega)))
  · have hb : b < w.heap.size := (Array.getElem?_eq_some_iff.1 h3).1
    refine ⟨b, cap, h1, h4, by unfold maxLen at h5; omega, h2, hb, fun j hj => ?_⟩
    rw [Nat.zero_add, cell_of_row _ _ _ _ _ _ h3]
    have e : cur.toList[j]? = (g.map bb)[j]? := by
      have := congrArg (fun l => l[j]?) h7
      simp only [List.getElem?_take, List.length_map] at this
      rw [if_pos (by omega)] at this
      exact this
    rw [← Array.getElem?_toList, e, List.getElem?_map, List.getElem?_eq_getElem hj]
    simp [bb, List.getD_eq_getElem?_getD, List.getElem?_eq_getElem hj]

/-- The three readings: a name, a scalar, the end. -/
structure Reads (T : List UInt8) (L kd ats na : Nat) (s : ByteArray) : Prop where
  run : ∀ (q b cap : Nat), Cx q b L cap T → ∀ W, St q b L cap 0 cap T W tok0 (.slice none 0 0) 0 →
    Calls Tryz.prog 30 #[.pointer (some ⟨q, 0, none⟩)] W fun e W1 =>
      ∃ t1 : Tok, e = .returned (.tuple #[t1.v, .nilIface]) ∧ (∃ o n c, t1.raw = .slice (some ⟨b, o, none⟩) n c) ∧ Keeps q W W1 ∧
      ∀ W1', Below W1.heap.size W1 W1' → Calls Tryz.prog 30 #[.pointer (some ⟨q, 0, none⟩)] W1' fun e W2 =>
        ∃ t2 : Tok, e = .returned (.tuple #[t2.v, .nilIface]) ∧ (t2.kd = kd ∧ t2.ats = ats ∧ t2.na = na ∧ t2.s = s ∧ ∃ p size, RawV b p size t2.raw ∧ p + size ≤ L) ∧ RowM W2 b 0 T ∧ Keeps q W1' W2 ∧
        ∀ W2', Below W2.heap.size W2 W2' → Calls Tryz.prog 30 #[.pointer (some ⟨q, 0, none⟩)] W2' fun e W3 =>
          ∃ t3 : Tok, e = .returned (.tuple #[t3.v, .nilIface]) ∧ t3.kd = 1 ∧ (∃ o n c, t3.raw = .slice (some ⟨b, o, none⟩) n c) ∧ Keeps q W2' W3

theorem raw_one {b pos size : Nat} {v : Value} (h : RawV b pos size v) : v.oneCell' = true := by
  obtain ⟨_, _, rfl, _⟩ := h; rfl

theorem raw_sl {b pos size : Nat} {v : Value} (h : RawV b pos size v) : ∃ o n c, v = .slice (some ⟨b, o, none⟩) n c := by
  obtain ⟨o, c, rfl, _⟩ := h; exact ⟨_, _, _, rfl⟩

theorem reads_int (l : List UInt8) (hmax : l.length ≤ 140737488350000) (p1 : Nat) (neg : Bool) (hi : IntAt (97 :: 58 :: 32 :: l) (l.length + 3) 3 p1 neg) :
    Reads (97 :: 58 :: 32 :: l) (l.length + 3) 3 1 (if neg then 128 else 0) ⟨(part (97 :: 58 :: 32 :: l) 3 (l.length + 3 - 3)).toArray⟩ := by
  obtain ⟨T, hT⟩ : ∃ T, T = 97 :: 58 :: 32 :: l := ⟨_, rfl⟩
  obtain ⟨L, hL⟩ : ∃ L, L = l.length + 3 := ⟨_, rfl⟩
  have hTL : T.length = L := by rw [hT, hL]; simp
  have g0 : T.getD 0 0 = 97 := by rw [hT]; rfl
  have g1 : T.getD 1 0 = 58 := by rw [hT]; rfl
  have g2 : T.getD 2 0 = 32 := by rw [hT]; rfl
  rw [← hT, ← hL] at hi ⊢
  have hlt3 : 3 < L := intAt_pos hi
  have hc3 : (48 ≤ (T.getD 3 0).toNat ∧ (T.getD 3 0).toNat ≤ 57) ∨ (T.getD 3 0).toNat = 45 := by
    rcases hi.sign with ⟨_, h1, h2⟩ | ⟨_, h1, h2⟩
    · exact .inl (hi.digit 3 (by omega) hlt3)
    · exact .inr h2
  have s33 : Sk T 3 3 := .stop 3 (fun _ => by
    rcases hc3 with h | h
    · exact digit_not_ws h
    · rw [h]; exact ⟨rfl, by decide⟩)
  have s00 : Sk T 0 0 := .stop 0 (fun _ => by rw [g0]; exact ⟨rfl, by decide⟩)
  have s11 : Sk T (0 + 1) 1 := .stop 1 (fun _ => by rw [g1]; exact ⟨rfl, by decide⟩)
  have s23 : Sk T (1 + 1) 3 := .blank 2 3 (by omega) (by rw [g2]; rfl) s33
  refine ⟨fun q b cap hx W hs => ?_⟩
  refine (read_tok q b L cap 0 cap T hx tok0 (.slice none 0 0) 0 3 2 129 0 0 1 ⟨#[]⟩ W hs (by decide) (fun W' _ hs' => ?_)).mono ?_
  · exact next_field q b L cap 0 cap T hx tok0 (.slice none 0 0) 0 0 3 2 129 0 1 ⟨#[]⟩ W' hs' s00 (by omega) (fun W'' hs'' => field_name q b L cap 0 cap T hx tok0 (.slice none 0 0) 0 1 1 3 W'' hs'' (Nat.le_refl _) (by rw [g0]; decide) (fun j hj => by
      obtain rfl : j = 0 := by omega
      rw [Nat.add_zero, g0]; decide) (fun _ => by rw [Nat.zero_add, g1]; decide) s11 (by omega) (by rw [g1]; rfl) s23 (by omega))
  rintro e W1 ⟨t1, rfl, hm1, hs1, hk1⟩
  refine ⟨t1, rfl, raw_sl hm1.2.2.2.2.1, hk1, fun W1' hb1 => ?_⟩
  refine (read_tok q b L cap 0 cap T hx t1 (.slice none 0 0) 3 L 3 1 (if neg then 128 else 0) 3 (L - 3) ⟨(part T 3 (L - 3)).toArray⟩ W1' (hs1.below hx hb1) (by decide) (fun W' _ hs' => ?_)).mono ?_
  · rw [hm1.1]
    exact next_scalar q b L cap 0 cap T hx t1 (.slice none 0 0) 3 3 L 3 1 (if neg then 128 else 0) (L - 3) ⟨(part T 3 (L - 3)).toArray⟩ W' hs' s33 hlt3 (by omega) (fun W'' _ hs'' => scalar_int q b L cap 0 cap T hx t1 (.slice none 0 0) 3 p1 neg hi W'' hs'')
  rintro e W2 ⟨t2, rfl, hm2, hs2, hk2⟩
  obtain ⟨_, _, _, _, _, hrow2, _⟩ := id hs2
  refine ⟨t2, rfl, ⟨hm2.1, hm2.2.1, hm2.2.2.1, hm2.2.2.2.2.2, 3, L - 3, hm2.2.2.2.2.1, by omega⟩, hrow2, hk2, fun W2' hb2 => ?_⟩
  refine (read_tok q b L cap 0 cap T hx t2 (.slice none 0 0) L L 1 0 0 L 0 ⟨#[]⟩ W2' (hs2.below hx hb2) (by decide) (fun W' _ hs' => ?_)).mono ?_
  · rw [hm2.1]
    exact next_end q b L cap 0 cap T hx t2 L W' hs' (.stop L (fun h => by omega))
  rintro e W3 ⟨t3, rfl, hm3, hs3, hk3⟩
  exact ⟨t3, rfl, hm3.1, raw_sl hm3.2.2.2.2.1, hk3⟩

end Go.Proofs.YtpneioocmpagmaaGreatDoor.tx

