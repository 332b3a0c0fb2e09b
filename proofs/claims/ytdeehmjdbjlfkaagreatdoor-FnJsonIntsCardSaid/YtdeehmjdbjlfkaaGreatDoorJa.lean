/- What JSON's escapes stand for: plain lists of bytes. -/
import Derived.Lib.ValidLaws
namespace Go.Proofs.YtdeehmjdbjlfkaaGreatDoor.js
open Go.Lib

/-- A byte that is written as it is. -/
def Pl (c : Nat) : Prop := 32 ≤ c ∧ c ≠ 34 ∧ c ≠ 92

instance (c : Nat) : Decidable (Pl c) := inferInstanceAs (Decidable (32 ≤ c ∧ c ≠ 34 ∧ c ≠ 92))

/-- A digit of base 16. -/
def hxd (n : Nat) : UInt8 := UInt8.ofNat (if n < 10 then 48 + n else 87 + n)

/-- The letter of a short escape; 0: there is none. -/
def two (c : Nat) : UInt8 := if c = 34 then 34 else if c = 92 then 92 else if c = 8 then 98 else if c = 12 then 102 else if c = 10 then 110 else if c = 13 then 114 else if c = 9 then 116 else 0

/-- What is written of a byte. -/
def encB (c : UInt8) : List UInt8 := if Pl c.toNat then [c] else if two c.toNat = 0 then [92, 117, 48, 48, hxd (c.toNat / 16), hxd (c.toNat % 16)] else [92, two c.toNat]

def enc (l : List UInt8) : List UInt8 := l.flatMap encB

theorem enc_nil : enc [] = [] := rfl
theorem enc_cons (c : UInt8) (l : List UInt8) : enc (c :: l) = encB c ++ enc l := rfl
theorem enc_append (a b : List UInt8) : enc (a ++ b) = enc a ++ enc b := by unfold enc; simp
theorem enc_one (c : UInt8) : enc [c] = encB c := by simp [enc]

theorem encB_len (c : UInt8) : (encB c).length ≤ 6 := by
  unfold encB
  repeat' split
  all_goals simp

theorem enc_len : ∀ l : List UInt8, (enc l).length ≤ 6 * l.length
  | [] => by simp [enc]
  | c :: l => by
    have h1 := encB_len c
    have h2 := enc_len l
    rw [enc_cons]; simp; omega

theorem enc_plain : ∀ l : List UInt8, (∀ j, j < l.length → Pl (l.getD j 0).toNat) → enc l = l
  | [], _ => rfl
  | c :: l, h => by
    have h0 : Pl c.toNat := by simpa using h 0 (by simp)
    rw [enc_cons, enc_plain l (fun j hj => by simpa using h (j + 1) (by simp; omega))]
    unfold encB
    rw [if_pos h0]; rfl

/-- d is the letter of b's short escape. -/
def EscP (d b : Nat) : Prop := (d = 34 ∧ b = 34) ∨ (d = 92 ∧ b = 92) ∨ (d = 98 ∧ b = 8) ∨ (d = 102 ∧ b = 12) ∨ (d = 110 ∧ b = 10) ∨ (d = 114 ∧ b = 13) ∨ (d = 116 ∧ b = 9)

/-- x and y are the digits of b. -/
def HexP (x y b : Nat) : Prop := b < 32 ∧ x = 48 + b / 16 ∧ ((b % 16 < 10 ∧ y = 48 + b % 16) ∨ (10 ≤ b % 16 ∧ y = 87 + b % 16))

/-- A text m, with rest behind its closing mark, stands for the bytes o. -/
inductive Ju (rest : List UInt8) : List UInt8 → List UInt8 → Prop where
  | nil : Ju rest (34 :: rest) []
  | plain (c : UInt8) (m o : List UInt8) : Pl c.toNat → Ju rest m o → Ju rest (c :: m) (c :: o)
  | esc (d b : UInt8) (m o : List UInt8) : EscP d.toNat b.toNat → Ju rest m o → Ju rest (92 :: d :: m) (b :: o)
  | hex (x y b : UInt8) (m o : List UInt8) : HexP x.toNat y.toNat b.toNat → Ju rest m o → Ju rest (92 :: 117 :: 48 :: 48 :: x :: y :: m) (b :: o)

theorem ju_enc (rest : List UInt8) : ∀ l : List UInt8, Ju rest (enc l ++ 34 :: rest) l
  | [] => .nil
  | c :: l => by
    have ih := ju_enc rest l
    have hc := c.toNat_lt
    rw [enc_cons, List.append_assoc]
    unfold encB
    by_cases hp : Pl c.toNat
    · rw [if_pos hp]
      exact .plain _ _ _ hp ih
    · rw [if_neg hp]
      by_cases h2 : two c.toNat = 0
      · rw [if_pos h2]
        have hlt : c.toNat < 32 := by
          unfold Pl at hp
          unfold two at h2
          by_cases h34 : c.toNat = 34
          · rw [if_pos h34] at h2; cases h2
          · rw [if_neg h34] at h2
            by_cases h92 : c.toNat = 92
            · rw [if_pos h92] at h2; cases h2
            · omega
        refine .hex _ _ _ _ _ ⟨hlt, ?_, ?_⟩ ih
        · unfold hxd
          rw [UInt8.toNat_ofNat']
          rw [if_pos (by omega)]; omega
        · unfold hxd
          rw [UInt8.toNat_ofNat']
          by_cases h10 : c.toNat % 16 < 10
          · left; rw [if_pos h10]; omega
          · right; rw [if_neg h10]; omega
      · rw [if_neg h2]
        refine .esc _ _ _ _ ?_ ih
        unfold EscP
        unfold two at h2 ⊢
        repeat' split
        all_goals first | (exfalso; simp_all; done) | skip
        all_goals simp_all

theorem ju_pos {rest m o : List UInt8} (h : Ju rest m o) : 0 < m.length := by cases h <;> simp

/-- What is left: of a text that stands for o, k bytes are read, as g. -/
def Left (rest m o : List UInt8) (k : Nat) (g : List UInt8) : Prop := ∃ r, Ju rest (m.drop k) r ∧ o = g ++ r

theorem left_start {rest m o : List UInt8} (h : Ju rest m o) : Left rest m o 0 [] := ⟨o, h, rfl⟩

theorem left_lt {rest m o g : List UInt8} {k : Nat} (h : Left rest m o k g) : k < m.length := by
  obtain ⟨r, hr, _⟩ := h
  have := ju_pos hr
  simp at this; omega

theorem ju_run {rest : List UInt8} : ∀ (n : Nat) (m r : List UInt8), Ju rest m r → (∀ j, j < n → Pl (m.getD j 0).toNat) → ∃ r', Ju rest (m.drop n) r' ∧ r = m.take n ++ r'
  | 0, m, r, h, _ => ⟨r, h, by simp⟩
  | n + 1, [], r, h, _ => by cases h
  | n + 1, c :: m, r, h, hok => by
    have h0 : Pl c.toNat := by simpa using hok 0 (by omega)
    unfold Pl at h0
    cases h with
    | nil => simp at h0
    | plain _ _ o _ h' =>
      obtain ⟨r', h1, h2⟩ := ju_run n m o h' (fun j hj => by simpa using hok (j + 1) (by omega))
      exact ⟨r', by simpa using h1, by simp [h2]⟩
    | esc _ _ _ _ _ => simp at h0
    | hex _ _ _ _ _ _ => simp at h0

theorem getD_drop (m : List UInt8) (k j : Nat) : (m.drop k).getD j 0 = m.getD (k + j) 0 := by
  rw [List.getD_eq_getElem?_getD, List.getElem?_drop, ← List.getD_eq_getElem?_getD]

theorem left_run {rest m o g : List UInt8} {k n : Nat} (h : Left rest m o k g) (hok : ∀ j, j < n → Pl (m.getD (k + j) 0).toNat) : Left rest m o (k + n) (g ++ (m.drop k).take n) := by
  obtain ⟨r, hr, rfl⟩ := h
  obtain ⟨r', h1, h2⟩ := ju_run n (m.drop k) r hr (fun j hj => by rw [getD_drop]; exact hok j hj)
  exact ⟨r', by rw [List.drop_drop] at h1; exact h1, by rw [h2]; simp⟩

/-- The next round's way. -/
theorem left_cases {rest m o g : List UInt8} {k : Nat} (h : Left rest m o k g) :
    ((m.getD k 0).toNat = 34 ∧ m.drop (k + 1) = rest ∧ o = g) ∨ Pl (m.getD k 0).toNat ∨
    (k + 2 < m.length ∧ (m.getD k 0).toNat = 92 ∧ ∃ b : UInt8, EscP (m.getD (k + 1) 0).toNat b.toNat ∧ Left rest m o (k + 2) (g ++ [b])) ∨
    (k + 6 < m.length ∧ (m.getD k 0).toNat = 92 ∧ (m.getD (k + 1) 0).toNat = 117 ∧ (m.getD (k + 2) 0).toNat = 48 ∧ (m.getD (k + 3) 0).toNat = 48 ∧ ∃ b : UInt8, HexP (m.getD (k + 4) 0).toNat (m.getD (k + 5) 0).toNat b.toNat ∧ Left rest m o (k + 6) (g ++ [b])) := by
  obtain ⟨r, hr, rfl⟩ := h
  have hlen : (m.drop k).length = m.length - k := by simp
  have e0 := getD_drop m k 0
  have e1 := getD_drop m k 1
  have e2 := getD_drop m k 2
  have e3 := getD_drop m k 3
  have e4 := getD_drop m k 4
  have e5 := getD_drop m k 5
  have d1 : (m.drop k).drop 1 = m.drop (k + 1) := by rw [List.drop_drop]
  have d2 : (m.drop k).drop 2 = m.drop (k + 2) := by rw [List.drop_drop]
  have d6 : (m.drop k).drop 6 = m.drop (k + 6) := by rw [List.drop_drop]
  obtain ⟨q, hq⟩ : ∃ q, q = m.drop k := ⟨_, rfl⟩
  rw [← hq] at hr hlen e0 e1 e2 e3 e4 e5 d1 d2 d6
  rw [Nat.add_zero] at e0
  rw [← e0, ← e1, ← e2, ← e3, ← e4, ← e5]
  cases hr with
  | nil => exact .inl ⟨rfl, by rw [← d1]; rfl, by simp⟩
  | plain c m' o' hc h' => exact .inr (.inl hc)
  | esc d b m' o' hb h' =>
    have := ju_pos h'
    refine .inr (.inr (.inl ⟨?_, rfl, b, hb, o', ?_, by simp⟩))
    · simp at hlen; omega
    · rw [← d2]; exact h'
  | hex x y b m' o' hb h' =>
    have := ju_pos h'
    refine .inr (.inr (.inr ⟨?_, rfl, rfl, rfl, rfl, b, hb, o', ?_, by simp⟩))
    · simp at hlen; omega
    · rw [← d6]; exact h'

/-- What a rune's first byte and width say of its bytes. -/
theorem decodeN_high (n b0 b1 b2 b3 : Nat) (h : ¬ ((decodeN n b0 b1 b2 b3).1 = 65533 ∧ (decodeN n b0 b1 b2 b3).2 = 1)) :
    ((decodeN n b0 b1 b2 b3) = (b0, 1) ∧ b0 < 128) ∨
    (128 ≤ b0 ∧ 128 ≤ b1 ∧ 128 ≤ (decodeN n b0 b1 b2 b3).1 ∧ (2 ≤ (decodeN n b0 b1 b2 b3).2 ∧ (decodeN n b0 b1 b2 b3).2 ≤ 4) ∧ (3 ≤ (decodeN n b0 b1 b2 b3).2 → 128 ≤ b2) ∧ (4 ≤ (decodeN n b0 b1 b2 b3).2 → 128 ≤ b3)) := by
  rcases decodeN_shape n b0 b1 b2 b3 with ⟨h0, e⟩ | ⟨h0, h1, h2, h3, e⟩ | ⟨h0, h1, h2, h3, h4, h5, e⟩ | ⟨h0, h1, h2, h3, h4, h5, h6, e⟩ | e
  · exact .inl ⟨e, h0⟩
  · right; rw [e]; simp only; omega
  · right; rw [e]; simp only; omega
  · right; rw [e]; simp only; omega
  · exact absurd (by rw [e]; exact ⟨rfl, rfl⟩) h

theorem decodeN_cut (n n' b0 b1 b2 b3 c2 c3 k : Nat) (hkk : (decodeN n b0 b1 b2 b3).2 = k) (hk : 2 ≤ k) (hn : k ≤ n') (e2 : 3 ≤ k → c2 = b2) (e3 : 4 ≤ k → c3 = b3) : decodeN n' b0 b1 c2 c3 = decodeN n b0 b1 b2 b3 := by
  rcases decodeN_shape n b0 b1 b2 b3 with ⟨h0, e⟩ | ⟨h0, h1, h2, h3, e⟩ | ⟨h0, h1, h2, h3, h4, h5, e⟩ | ⟨h0, h1, h2, h3, h4, h5, h6, e⟩ | e
  all_goals
    rw [e] at hkk ⊢
    simp only at hkk
    subst hkk
  · omega
  · unfold decodeN
    rw [if_neg (by omega), if_pos (by omega), if_pos (by omega)]
  · obtain rfl := e2 (by omega)
    unfold decodeN
    rw [if_neg (by omega), if_neg (by omega), if_pos (by omega), if_pos (by omega)]
  · obtain rfl := e2 (by omega)
    obtain rfl := e3 (by omega)
    unfold decodeN
    rw [if_neg (by omega), if_neg (by omega), if_neg (by omega), if_pos (by omega), if_pos (by omega)]
  · omega

theorem pl_high {c : Nat} (h : 128 ≤ c) : Pl c := by unfold Pl; omega

/-- A rune that is none of a text's bad ones, and whose first byte is plain: all its bytes are. -/
theorem rune_plain (m : List UInt8) (h : ¬ ((decodeL m).1 = 65533 ∧ (decodeL m).2 = 1)) (hp : Pl (m.getD 0 0).toNat) :
    (∀ j, j < (decodeL m).2 → Pl (m.getD j 0).toNat) ∧ 32 ≤ (decodeL m).1 ∧ (decodeL m).1 ≠ 34 ∧ (decodeL m).1 ≠ 92 ∧ ((decodeL m).1 = 65533 → (decodeL m).2 ≠ 1) := by
  rw [decodeL_N] at h ⊢
  rcases decodeN_high _ _ _ _ _ h with ⟨e, h0⟩ | ⟨h0, h1, hr, ⟨hn, hn4⟩, h2, h3⟩
  · rw [e] at h ⊢
    simp only at h ⊢
    unfold Pl at hp ⊢
    refine ⟨fun j hj => ?_, hp.1, hp.2.1, hp.2.2, fun e h' => by simp_all⟩
    obtain rfl : j = 0 := by omega
    exact hp
  · refine ⟨fun j hj => ?_, by omega, by omega, by omega, fun _ => by omega⟩
    rcases (by omega : j = 0 ∨ j = 1 ∨ j = 2 ∨ j = 3) with rfl | rfl | rfl | rfl
    · exact hp
    · exact pl_high h1
    · exact pl_high (h2 (by omega))
    · exact pl_high (h3 (by omega))

/-- A rune that is not U+FFFD and stands for itself: all its bytes do. -/
theorem rune_bytes (m : List UInt8) (h : ¬ ((decodeL m).1 = 65533 ∧ (decodeL m).2 = 1)) (h0 : 32 ≤ (decodeL m).1) (h1 : (decodeL m).1 ≠ 34) (h2 : (decodeL m).1 ≠ 92) : Pl (m.getD 0 0).toNat := by
  rw [decodeL_N] at h h0 h1 h2
  rcases decodeN_high _ _ _ _ _ h with ⟨e, _⟩ | ⟨g, _⟩
  · rw [e] at h0 h1 h2
    exact ⟨h0, h1, h2⟩
  · exact pl_high g

/-- A rune below 128 is its byte. -/
theorem rune_low (m : List UInt8) (h : (decodeL m).1 < 128) : decodeL m = ((m.getD 0 0).toNat, 1) ∧ (m.getD 0 0).toNat < 128 := by
  rw [decodeL_N] at h ⊢
  have hb : ¬ ((decodeN m.length (m.getD 0 0).toNat (m.getD 1 0).toNat (m.getD 2 0).toNat (m.getD 3 0).toNat).1 = 65533 ∧ (decodeN m.length (m.getD 0 0).toNat (m.getD 1 0).toNat (m.getD 2 0).toNat (m.getD 3 0).toNat).2 = 1) := by omega
  rcases decodeN_high _ _ _ _ _ hb with h' | ⟨_, _, g, _⟩
  · exact h'
  · omega

theorem valid_step (m : List UInt8) (hne : 0 < m.length) (h : ¬ ((decodeL m).1 = 65533 ∧ (decodeL m).2 = 1)) : validD m = validD (m.drop (decodeL m).2) := by
  rw [validD_step m (List.length_pos_iff.1 hne), if_neg h]

theorem valid_bad (m : List UInt8) (hne : 0 < m.length) (h : (decodeL m).1 = 65533 ∧ (decodeL m).2 = 1) : validD m = false := by
  rw [validD_step m (List.length_pos_iff.1 hne), if_pos h]

theorem width_le (m : List UInt8) (hne : 0 < m.length) : 1 ≤ (decodeL m).2 ∧ (decodeL m).2 ≤ m.length := ⟨decodeL_width m, decodeL_le m (List.length_pos_iff.1 hne)⟩

theorem decode_at_list (s : ByteArray) (k : Nat) : Utf8.decode s k = decodeL (s.data.toList.drop k) := by
  rw [decode_N, decodeL_N]
  simp only [getD_drop, List.length_drop, Nat.add_zero]

theorem decodeGo_list (s : ByteArray) (h : 0 < s.size) : (if s.size = 0 then (65533, 0) else Utf8.decode s 0) = decodeL s.data.toList := by
  rw [if_neg (by omega), decode_at_list]; simp

theorem decodeL_take (l Y : List UInt8) (k : Nat) (hkk : (decodeL l).2 = k) (hk : 2 ≤ k) (hl : k ≤ l.length) : decodeL (l.take k ++ Y) = decodeL l := by
  have g : ∀ j, j < k → (l.take k ++ Y).getD j 0 = l.getD j 0 := fun j hj => by
    rw [List.getD_eq_getElem?_getD, List.getElem?_append_left (by simp; omega), List.getElem?_take, if_pos hj, ← List.getD_eq_getElem?_getD]
  rw [decodeL_N] at hkk
  rw [decodeL_N (l.take k ++ Y), decodeL_N l, g 0 (by omega), g 1 (by omega)]
  exact decodeN_cut _ _ _ _ _ _ _ _ k hkk hk (by simp; omega) (fun h => by rw [g 2 (by omega)]) (fun h => by rw [g 3 (by omega)])

theorem encB_low (c : UInt8) (h : c.toNat < 128) : ∀ b ∈ encB c, b.toNat < 128 := by
  intro b hb
  unfold encB at hb
  have h2 : (two c.toNat).toNat < 128 := by
    unfold two
    repeat' split
    all_goals decide
  have hx : ∀ n : Nat, n < 16 → (hxd n).toNat < 128 := by
    intro n hn
    unfold hxd
    rw [UInt8.toNat_ofNat']
    split <;> omega
  repeat' split at hb
  · simp at hb; subst hb; exact h
  · simp only [List.mem_cons, List.not_mem_nil, or_false] at hb
    rcases hb with rfl | rfl | rfl | rfl | rfl | rfl
    · decide
    · decide
    · decide
    · decide
    · exact hx _ (by omega)
    · exact hx _ (by omega)
  · simp only [List.mem_cons, List.not_mem_nil, or_false] at hb
    rcases hb with rfl | rfl
    · decide
    · exact h2

theorem valid_enc (rest : List UInt8) (hr : validD rest = true) : ∀ (n : Nat) (l : List UInt8), l.length ≤ n → validD l = true → validD (enc l ++ 34 :: rest) = true := by
  intro n
  induction n with
  | zero =>
    intro l hl hv
    obtain rfl : l = [] := List.eq_nil_of_length_eq_zero (by omega)
    rw [enc_nil, List.nil_append, validD_cons _ _ (by decide)]
    exact hr
  | succ n ih =>
    intro l hl hv
    cases l with
    | nil =>
      rw [enc_nil, List.nil_append, validD_cons _ _ (by decide)]
      exact hr
    | cons c t =>
      by_cases hc : c.toNat < 128
      · rw [validD_cons c t hc] at hv
        have := ih t (by simpa using hl) hv
        rw [enc_cons, List.append_assoc, validD_ascii (encB c).length _ (fun b hb => by
          rw [List.take_left'] at hb
          · exact encB_low c hc b hb
          · rfl), List.drop_left' rfl]
        exact this
      · have hg : ¬ ((decodeL (c :: t)).1 = 65533 ∧ (decodeL (c :: t)).2 = 1) := fun h => by
          rw [valid_bad _ (by simp) h] at hv; cases hv
        obtain ⟨k, hk⟩ : ∃ k, (decodeL (c :: t)).2 = k := ⟨_, rfl⟩
        have hle := (width_le (c :: t) (by simp)).2
        have hst := valid_step (c :: t) (by simp) hg
        have hrp := (rune_plain (c :: t) hg (pl_high (by simpa using Nat.le_of_not_lt hc))).1
        have hk2 : 2 ≤ k := by
          have hg' := hg
          rw [decodeL_N] at hg' hk
          rcases decodeN_high _ _ _ _ _ hg' with ⟨_, h0⟩ | ⟨_, _, _, ⟨h2, _⟩, _⟩
          · exact absurd (by simpa using h0) hc
          · omega
        have hdt := fun Y => decodeL_take (c :: t) Y k hk hk2 (by omega)
        rw [hk] at hst hle hrp
        obtain ⟨l, hl'⟩ : ∃ l, l = c :: t := ⟨_, rfl⟩
        simp only [← hl'] at hl hv hg hk hle hst hrp hdt ⊢
        have e1 : enc l = l.take k ++ enc (l.drop k) := by
          conv => lhs; rw [← List.take_append_drop k l]
          rw [enc_append, enc_plain (l.take k) (fun j hj => by
            have hj' : j < k := by simp at hj; omega
            rw [List.getD_eq_getElem?_getD, List.getElem?_take, if_pos hj', ← List.getD_eq_getElem?_getD]
            exact hrp j hj')]
        rw [e1, List.append_assoc]
        have hd := hdt (enc (l.drop k) ++ 34 :: rest)
        have hpos : 0 < (l.take k ++ (enc (l.drop k) ++ 34 :: rest)).length := by simp; omega
        rw [valid_step _ hpos (by rw [hd]; exact hg), hd, hk, List.drop_left' (by simp; omega)]
        exact ih (l.drop k) (by simp; omega) (by rw [← hst]; exact hv)

theorem valid_skip (m : List UInt8) (k n : Nat) (h : ∀ j, j < n → (m.getD (k + j) 0).toNat < 128) : validD (m.drop k) = validD (m.drop (k + n)) := by
  rw [validD_ascii n (m.drop k) (fun b hb => ?_), List.drop_drop]
  obtain ⟨j, hj⟩ := List.mem_iff_getElem?.1 hb
  rw [List.getElem?_take] at hj
  by_cases hjn : j < n
  · rw [if_pos hjn, List.getElem?_drop] at hj
    have := h j hjn
    rw [List.getD_eq_getElem?_getD, hj] at this
    exact this
  · rw [if_neg hjn] at hj; cases hj

end Go.Proofs.YtdeehmjdbjlfkaaGreatDoor.js
