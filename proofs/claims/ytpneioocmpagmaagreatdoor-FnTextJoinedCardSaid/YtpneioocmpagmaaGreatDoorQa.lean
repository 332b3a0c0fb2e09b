/- What the text form's escapes stand for, and what is written of bytes: plain lists. -/
import Derived.Lib.ValidLaws
import Derived.Test.YtpneioocmpagmaaGreatDoorUn
namespace Go.Proofs.YtpneioocmpagmaaGreatDoor.tx
open Go.Lib
set_option linter.unusedVariables false
set_option linter.unusedSimpArgs false

/-- A byte that is written as it is. -/
abbrev Ok (c : Nat) : Prop := une.Ok c

/-- d is the letter of b's short escape. -/
def EscT (d b : Nat) : Prop := (d = 34 ∧ b = 34) ∨ (d = 92 ∧ b = 92) ∨ (d = 110 ∧ b = 10) ∨ (d = 114 ∧ b = 13) ∨ (d = 116 ∧ b = 9)

/-- x is the digit of n at base 16. -/
def HexD (x n : Nat) : Prop := (n < 10 ∧ x = 48 + n) ∨ (10 ≤ n ∧ n < 16 ∧ x = 87 + n)

/-- Bytes that are one rune, whatever stands behind them, and no mark. -/
def Rune1 (bs : List UInt8) : Prop := bs ≠ [] ∧ bs.length ≤ 4 ∧ ∃ r, 32 ≤ r ∧ r ≠ 34 ∧ r ≠ 92 ∧ ¬ (r = 65533 ∧ bs.length = 1) ∧ ∀ m, decodeL (bs ++ m) = (r, bs.length)

/-- A text m, with rest behind its closing mark, stands for the bytes o. -/
inductive Tu (rest : List UInt8) : List UInt8 → List UInt8 → Prop where
  | nil : Tu rest (34 :: rest) []
  | rune (bs m o : List UInt8) : Rune1 bs → Tu rest m o → Tu rest (bs ++ m) (bs ++ o)
  | esc (d b : UInt8) (m o : List UInt8) : EscT d.toNat b.toNat → Tu rest m o → Tu rest (92 :: d :: m) (b :: o)
  | hex (x y b : UInt8) (m o : List UInt8) : HexD x.toNat (b.toNat / 16) → HexD y.toNat (b.toNat % 16) → Tu rest m o → Tu rest (92 :: 120 :: x :: y :: m) (b :: o)
  | uni (x y b : UInt8) (m o : List UInt8) : 128 ≤ b.toNat → b.toNat < 160 → HexD x.toNat (b.toNat / 16) → HexD y.toNat (b.toNat % 16) → Tu rest m o → Tu rest (92 :: 117 :: 48 :: 48 :: x :: y :: m) (194 :: b :: o)

/-- g is what may be written of the bytes a. -/
def Tenc (g a : List UInt8) : Prop := ∀ rest m r, Tu rest m r → Tu rest (g ++ m) (a ++ r)

theorem tenc_nil : Tenc [] [] := fun _ _ _ h => h

theorem Tenc.append {g a h b : List UInt8} (h1 : Tenc g a) (h2 : Tenc h b) : Tenc (g ++ h) (a ++ b) := by
  intro rest m r hr
  rw [List.append_assoc, List.append_assoc]
  exact h1 rest _ _ (h2 rest m r hr)

theorem tenc_rune {bs : List UInt8} (h : Rune1 bs) : Tenc bs bs := fun rest m r hr => .rune bs m r h hr

theorem decode_low (c : UInt8) (h : c.toNat < 128) (m : List UInt8) : decodeL (c :: m) = (c.toNat, 1) := by
  rw [decodeL_N]
  unfold decodeN
  simp [h]

theorem rune_ok {c : UInt8} (h : Ok c.toNat) : Rune1 [c] := by
  unfold Ok une.Ok at h
  exact ⟨by simp, by simp, c.toNat, h.1, h.2.2.1, h.2.2.2.2, by intro e; have := e.1; omega, fun m => decode_low c (by omega) m⟩

theorem tenc_run : ∀ l : List UInt8, (∀ j, j < l.length → Ok (l.getD j 0).toNat) → Tenc l l
  | [], _ => tenc_nil
  | c :: l, h => by
    have h0 : Ok c.toNat := by simpa using h 0 (by simp)
    exact (tenc_rune (rune_ok h0)).append (tenc_run l (fun j hj => by simpa using h (j + 1) (by simp; omega)))

theorem tenc_esc {d b : UInt8} (h : EscT d.toNat b.toNat) : Tenc [92, d] [b] := fun rest m r hr => .esc d b m r h hr
theorem tenc_hex {x y b : UInt8} (h1 : HexD x.toNat (b.toNat / 16)) (h2 : HexD y.toNat (b.toNat % 16)) : Tenc [92, 120, x, y] [b] := fun rest m r hr => .hex x y b m r h1 h2 hr
theorem tenc_uni {x y b : UInt8} (h0 : 128 ≤ b.toNat) (h3 : b.toNat < 160) (h1 : HexD x.toNat (b.toNat / 16)) (h2 : HexD y.toNat (b.toNat % 16)) : Tenc [92, 117, 48, 48, x, y] [194, b] := fun rest m r hr => .uni x y b m r h0 h3 h1 h2 hr

theorem tu_pos {rest m o : List UInt8} (h : Tu rest m o) : rest.length + 1 ≤ m.length := by
  induction h with
  | nil => simp
  | rune bs m o h _ ih => simp; omega
  | esc => simp; omega
  | hex => simp; omega
  | uni => simp; omega

theorem tu_len {rest m o : List UInt8} (h : Tu rest m o) : o.length + rest.length + 1 ≤ m.length := by
  induction h with
  | nil => simp
  | rune bs m o h _ ih => simp; omega
  | esc => simp; omega
  | hex => simp; omega
  | uni => simp; omega

theorem tgetD_drop (m : List UInt8) (k j : Nat) : (m.drop k).getD j 0 = m.getD (k + j) 0 := by
  rw [List.getD_eq_getElem?_getD, List.getElem?_drop, ← List.getD_eq_getElem?_getD]

/-- What a rune's first byte and width say of its bytes. -/
theorem tdecodeN_cut (n n' b0 b1 b2 b3 c2 c3 k : Nat) (hkk : (decodeN n b0 b1 b2 b3).2 = k) (hk : 2 ≤ k) (hn : k ≤ n') (e2 : 3 ≤ k → c2 = b2) (e3 : 4 ≤ k → c3 = b3) : decodeN n' b0 b1 c2 c3 = decodeN n b0 b1 b2 b3 := by
  rcases decodeN_shape n b0 b1 b2 b3 with ⟨h0, e⟩ | ⟨h0, h1, h2, h3, e⟩ | ⟨h0, h1, h2, h3, h4, h5, e⟩ | ⟨h0, h1, h2, h3, h4, h5, h6, e⟩ | e
  all_goals
    rw [e] at hkk ⊢
    simp only at hkk
    subst hkk
  · omega
  · unfold decodeN
    rw [if_neg (by omega), if_pos (by omega), if_pos (by omega)]
  · obtain rfl := e2 (by omega)
    unfold decodeN
    rw [if_neg (by omega), if_neg (by omega), if_pos (by omega), if_pos (by omega)]
  · obtain rfl := e2 (by omega)
    obtain rfl := e3 (by omega)
    unfold decodeN
    rw [if_neg (by omega), if_neg (by omega), if_neg (by omega), if_pos (by omega), if_pos (by omega)]
  · omega

theorem twidth_le (m : List UInt8) (hne : 0 < m.length) : 1 ≤ (decodeL m).2 ∧ (decodeL m).2 ≤ m.length := ⟨decodeL_width m, decodeL_le m (List.length_pos_iff.1 hne)⟩

theorem tdecode_at_list (s : ByteArray) (k : Nat) : Utf8.decode s k = decodeL (s.data.toList.drop k) := by
  rw [decode_N, decodeL_N]
  simp only [tgetD_drop, List.length_drop, Nat.add_zero]

theorem tdecodeGo_list (s : ByteArray) (h : 0 < s.size) : (if s.size = 0 then (65533, 0) else Utf8.decode s 0) = decodeL s.data.toList := by
  rw [if_neg (by omega), tdecode_at_list, List.drop_zero]

/-- A good rune at the head of l that is no mark. -/
theorem rune_take {l : List UInt8} {r n : Nat} (hd : decodeL l = (r, n)) (hl : 0 < l.length) (h32 : 32 ≤ r) (h34 : r ≠ 34) (h92 : r ≠ 92) (hb : ¬ (r = 65533 ∧ n = 1)) : Rune1 (l.take n) ∧ n ≤ l.length := by
  have hw := twidth_le l hl
  rw [hd] at hw
  simp only at hw
  have hlen : (l.take n).length = n := by rw [List.length_take]; omega
  have hd0 := hd
  rw [decodeL_N] at hd
  have hs := decodeN_shape l.length (l.getD 0 0).toNat (l.getD 1 0).toNat (l.getD 2 0).toNat (l.getD 3 0).toNat
  have hn4 : n ≤ 4 := by
    rcases hs with ⟨h0, e⟩ | ⟨h0, h1, h2, h3, e⟩ | ⟨h0, h1, h2, h3, h4, h5, e⟩ | ⟨h0, h1, h2, h3, h4, h5, h6, e⟩ | e
    all_goals rw [e] at hd; injection hd with _ h; omega
  refine ⟨⟨by intro h; rw [h] at hlen; simp at hlen; omega, by omega, r, h32, h34, h92, by rw [hlen]; exact hb, fun m => ?_⟩, hw.2⟩
  rw [hlen]
  have hg : ∀ j, j < n → (l.take n ++ m).getD j 0 = l.getD j 0 := by
    intro j hj
    rw [List.getD_eq_getElem?_getD, List.getElem?_append_left (by omega), List.getElem?_take, if_pos hj, ← List.getD_eq_getElem?_getD]
  rcases (by omega : n = 1 ∨ 2 ≤ n) with h1 | h2
  · have hlow : r < 128 := by
      rcases hs with ⟨h0, e⟩ | ⟨h0, h1, h2, h3, e⟩ | ⟨h0, h1, h2, h3, h4, h5, e⟩ | ⟨h0, h1, h2, h3, h4, h5, h6, e⟩ | e
      all_goals (rw [e] at hd; have h := congrArg Prod.fst hd; have h' := congrArg Prod.snd hd; simp only at h h'; omega)
    have hr0 : (l.getD 0 0).toNat = r := by
      rcases hs with ⟨h0, e⟩ | ⟨h0, h1, h2, h3, e⟩ | ⟨h0, h1, h2, h3, h4, h5, e⟩ | ⟨h0, h1, h2, h3, h4, h5, h6, e⟩ | e
      all_goals (rw [e] at hd; have h := congrArg Prod.fst hd; have h' := congrArg Prod.snd hd; simp only at h h'; omega)
    subst h1
    have e0 := hg 0 (by omega)
    rw [decodeL_N, e0, hr0]
    unfold decodeN
    simp [hlow]
  · rw [decodeL_N, hg 0 (by omega), hg 1 (by omega)]
    rw [← hd]
    exact tdecodeN_cut _ _ _ _ _ _ _ _ n (by rw [hd]) h2 (by simp; omega) (fun h => by rw [hg 2 (by omega)]) (fun h => by rw [hg 3 (by omega)])

/-- What is left: of a text that stands for o, k bytes are read, as g. -/
def LeftT (rest m o : List UInt8) (k : Nat) (g : List UInt8) : Prop := ∃ r, Tu rest (m.drop k) r ∧ o = g ++ r

theorem leftT_start {rest m o : List UInt8} (h : Tu rest m o) : LeftT rest m o 0 [] := ⟨o, h, rfl⟩

theorem leftT_lt {rest m o g : List UInt8} {k : Nat} (h : LeftT rest m o k g) : k + rest.length + 1 ≤ m.length := by
  obtain ⟨r, hr, _⟩ := h
  have := tu_pos hr
  simp at this; omega

theorem leftT_len {rest m o g : List UInt8} {k : Nat} (h : LeftT rest m o k g) : g.length ≤ o.length := by
  obtain ⟨r, hr, rfl⟩ := h
  simp

theorem tu_run {rest : List UInt8} : ∀ (n : Nat) (m r : List UInt8), Tu rest m r → (∀ j, j < n → Ok (m.getD j 0).toNat) → ∃ r', Tu rest (m.drop n) r' ∧ r = m.take n ++ r'
  | 0, m, r, h, _ => ⟨r, h, by simp⟩
  | n + 1, [], r, h, _ => by have := tu_pos h; simp at this
  | n + 1, c :: m, r, h, hok => by
    have h0 : Ok c.toNat := by simpa using hok 0 (by omega)
    have hq : ∀ m' o', Tu rest m' o' → m' = c :: m → ∃ o, Tu rest m o ∧ o' = c :: o := by
      intro m' o' h' e
      unfold Ok une.Ok at h0
      cases h' with
      | nil => injection e with e1 e2; rw [← e1] at h0; simp at h0
      | rune bs m2 o hr ht =>
        obtain ⟨hne, _, rr, _, _, _, _, hd⟩ := hr
        have := hd m2
        rw [e, decode_low c (by omega)] at this
        injection this with a1 a2
        match bs, hne, a2 with
        | [x], _, _ =>
          injection e with e1 e2
          simp at e2
          subst e1 e2
          exact ⟨o, ht, by simp⟩
        | x :: y :: z, _, a2 => simp at a2
      | esc => injection e with e1 e2; rw [← e1] at h0; simp at h0
      | hex => injection e with e1 e2; rw [← e1] at h0; simp at h0
      | uni => injection e with e1 e2; rw [← e1] at h0; simp at h0
    obtain ⟨o, ho, rfl⟩ := hq _ _ h rfl
    obtain ⟨r', h1, h2⟩ := tu_run n m o ho (fun j hj => by simpa using hok (j + 1) (by omega))
    exact ⟨r', by simpa using h1, by simp [h2]⟩

theorem leftT_run {rest m o g : List UInt8} {k n : Nat} (h : LeftT rest m o k g) (hok : ∀ j, j < n → Ok (m.getD (k + j) 0).toNat) : LeftT rest m o (k + n) (g ++ (m.drop k).take n) := by
  obtain ⟨r, hr, rfl⟩ := h
  obtain ⟨r', h1, h2⟩ := tu_run n (m.drop k) r hr (fun j hj => by rw [tgetD_drop]; exact hok j hj)
  exact ⟨r', by rw [List.drop_drop] at h1; exact h1, by rw [h2]; simp⟩

/-- The next round's way. -/
theorem leftT_cases {rest m o g : List UInt8} {k : Nat} (h : LeftT rest m o k g) :
    ((m.getD k 0).toNat = 34 ∧ m.drop (k + 1) = rest ∧ o = g) ∨
    (∃ r n, decodeL (m.drop k) = (r, n) ∧ 32 ≤ r ∧ r ≠ 34 ∧ r ≠ 92 ∧ ¬ (r = 65533 ∧ n = 1) ∧ 1 ≤ n ∧ n ≤ 4 ∧ k + n < m.length ∧ LeftT rest m o (k + n) (g ++ (m.drop k).take n)) ∨
    (k + 2 < m.length ∧ (m.getD k 0).toNat = 92 ∧ ∃ b : UInt8, EscT (m.getD (k + 1) 0).toNat b.toNat ∧ LeftT rest m o (k + 2) (g ++ [b])) ∨
    (k + 4 < m.length ∧ (m.getD k 0).toNat = 92 ∧ (m.getD (k + 1) 0).toNat = 120 ∧ ∃ b : UInt8, HexD (m.getD (k + 2) 0).toNat (b.toNat / 16) ∧ HexD (m.getD (k + 3) 0).toNat (b.toNat % 16) ∧ LeftT rest m o (k + 4) (g ++ [b])) ∨
    (k + 6 < m.length ∧ (m.getD k 0).toNat = 92 ∧ (m.getD (k + 1) 0).toNat = 117 ∧ (m.getD (k + 2) 0).toNat = 48 ∧ (m.getD (k + 3) 0).toNat = 48 ∧ ∃ b : UInt8, 128 ≤ b.toNat ∧ b.toNat < 160 ∧ HexD (m.getD (k + 4) 0).toNat (b.toNat / 16) ∧ HexD (m.getD (k + 5) 0).toNat (b.toNat % 16) ∧ LeftT rest m o (k + 6) (g ++ [194, b])) := by
  obtain ⟨r, hr, rfl⟩ := h
  have hlen : (m.drop k).length = m.length - k := by simp
  have e0 := tgetD_drop m k 0
  have e1 := tgetD_drop m k 1
  have e2 := tgetD_drop m k 2
  have e3 := tgetD_drop m k 3
  have e4 := tgetD_drop m k 4
  have e5 := tgetD_drop m k 5
  have d1 : (m.drop k).drop 1 = m.drop (k + 1) := by rw [List.drop_drop]
  have d2 : (m.drop k).drop 2 = m.drop (k + 2) := by rw [List.drop_drop]
  have d4 : (m.drop k).drop 4 = m.drop (k + 4) := by rw [List.drop_drop]
  have d6 : (m.drop k).drop 6 = m.drop (k + 6) := by rw [List.drop_drop]
  have dn : ∀ n, (m.drop k).drop n = m.drop (k + n) := fun n => by rw [List.drop_drop]
  obtain ⟨q, hq⟩ : ∃ q, q = m.drop k := ⟨_, rfl⟩
  rw [← hq] at hr hlen e0 e1 e2 e3 e4 e5 d1 d2 d4 d6
  simp only [← hq] at dn ⊢
  rw [Nat.add_zero] at e0
  rw [← e0, ← e1, ← e2, ← e3, ← e4, ← e5]
  cases hr with
  | nil => exact .inl ⟨rfl, by rw [← d1]; rfl, by simp⟩
  | rune bs m' o' hc h' =>
    have hp := tu_pos h'
    obtain ⟨hne, h4, rr, a1, a2, a3, a4, hd⟩ := hc
    have hbl : 1 ≤ bs.length := by cases bs with | nil => exact absurd rfl hne | cons => simp
    refine .inr (.inl ⟨rr, bs.length, hd m', a1, a2, a3, a4, hbl, h4, by simp at hlen; omega, o', ?_, ?_⟩)
    · rw [← dn, List.drop_left]; exact h'
    · rw [List.take_left]; simp
  | esc d b m' o' hb h' =>
    have := tu_pos h'
    refine .inr (.inr (.inl ⟨?_, rfl, b, hb, o', ?_, by simp⟩))
    · simp at hlen; omega
    · rw [← d2]; exact h'
  | hex x y b m' o' hb hb' h' =>
    have := tu_pos h'
    refine .inr (.inr (.inr (.inl ⟨?_, rfl, rfl, b, hb, hb', o', ?_, by simp⟩)))
    · simp at hlen; omega
    · rw [← d4]; exact h'
  | uni x y b m' o' hb0 hb3 hb hb' h' =>
    have := tu_pos h'
    refine .inr (.inr (.inr (.inr ⟨?_, rfl, rfl, rfl, rfl, b, hb0, hb3, hb, hb', o', ?_, by simp⟩)))
    · simp at hlen; omega
    · rw [← d6]; exact h'

/-- U+0080 to U+009F. -/
theorem rune_c1 {l : List UInt8} {r n : Nat} (hd : decodeL l = (r, n)) (h0 : 128 ≤ r) (h1 : r < 160) : n = 2 ∧ (l.getD 0 0).toNat = 194 ∧ (l.getD 1 0).toNat = r := by
  rw [decodeL_N] at hd
  rcases decodeN_shape l.length (l.getD 0 0).toNat (l.getD 1 0).toNat (l.getD 2 0).toNat (l.getD 3 0).toNat with ⟨a0, e⟩ | ⟨a0, a1, a2, a3, e⟩ | ⟨a0, a1, a2, a3, a4, a5, e⟩ | ⟨a0, a1, a2, a3, a4, a5, a6, e⟩ | e
  all_goals
    rw [e] at hd
    injection hd with e1 e2
  all_goals omega

/-- A rune that is none, of width one, is no byte below 128. -/
theorem rune_bad {l : List UInt8} (hd : decodeL l = (65533, 1)) (hl : 0 < l.length) : 128 ≤ (l.getD 0 0).toNat := by
  rw [decodeL_N] at hd
  refine Nat.le_of_not_lt fun h => ?_
  unfold decodeN at hd
  rw [if_pos h] at hd
  injection hd with e1 e2
  omega

end Go.Proofs.YtpneioocmpagmaaGreatDoor.tx
