/- What C's escapes stand for: a relation on lists of bytes. -/
import Derived.Tactics
namespace Go.Proofs.YtpneioocmpagmaaGreatDoor.une

def Ok (c : Nat) : Prop := 32 ≤ c ∧ c < 127 ∧ c ≠ 34 ∧ c ≠ 39 ∧ c ≠ 92

/-- A text l stands for the bytes o. -/
inductive Cu : List UInt8 → List UInt8 → Prop where
  | nil : Cu [] []
  | plain (c : UInt8) (l o : List UInt8) : Ok c.toNat → Cu l o → Cu (c :: l) (c :: o)
  | esc (c d b : UInt8) (l o : List UInt8) : c.toNat = 92 → ((d.toNat = 110 ∧ b.toNat = 10) ∨ (d.toNat = 114 ∧ b.toNat = 13) ∨ (d.toNat = 116 ∧ b.toNat = 9) ∨ ((d.toNat = 34 ∨ d.toNat = 39 ∨ d.toNat = 92) ∧ b = d)) → Cu l o → Cu (c :: d :: l) (b :: o)
  | oct (c d e f b : UInt8) (l o : List UInt8) : c.toNat = 92 → (48 ≤ d.toNat ∧ d.toNat ≤ 51) → (48 ≤ e.toNat ∧ e.toNat ≤ 55) → (48 ≤ f.toNat ∧ f.toNat ≤ 55) → b.toNat = (d.toNat - 48) * 64 + (e.toNat - 48) * 8 + (f.toNat - 48) → Cu l o → Cu (c :: d :: e :: f :: l) (b :: o)

/-- The reading so far: the first k bytes stand for g. -/
def Far (l : List UInt8) (k : Nat) (g : List UInt8) : Prop := ∀ r, Cu (l.drop k) r → Cu l (g ++ r)

theorem far_nil (l : List UInt8) : Far l 0 [] := fun _ h => h

theorem far_end {l g : List UInt8} {k : Nat} (h : Far l k g) (hk : l.length ≤ k) : Cu l g := by
  have := h [] (by rw [List.drop_eq_nil_of_le hk]; exact .nil)
  simpa using this

theorem drop_get (l : List UInt8) (k : Nat) (h : k < l.length) : l.drop k = l.getD k 0 :: l.drop (k + 1) := by
  rw [List.drop_eq_getElem_cons h]
  simp [List.getD, List.getElem?_eq_getElem h]

theorem far_plain {l g : List UInt8} {k : Nat} (h : Far l k g) (hk : k < l.length) (ho : Ok (l.getD k 0).toNat) : Far l (k + 1) (g ++ [l.getD k 0]) := by
  intro r hr
  have := h (l.getD k 0 :: r) (by rw [drop_get l k hk]; exact .plain _ _ _ ho hr)
  simpa using this

theorem far_esc {l g : List UInt8} {k : Nat} {b : UInt8} (h : Far l k g) (hk : k + 1 < l.length) (h92 : (l.getD k 0).toNat = 92)
    (hb : ((l.getD (k + 1) 0).toNat = 110 ∧ b.toNat = 10) ∨ ((l.getD (k + 1) 0).toNat = 114 ∧ b.toNat = 13) ∨ ((l.getD (k + 1) 0).toNat = 116 ∧ b.toNat = 9) ∨ (((l.getD (k + 1) 0).toNat = 34 ∨ (l.getD (k + 1) 0).toNat = 39 ∨ (l.getD (k + 1) 0).toNat = 92) ∧ b = l.getD (k + 1) 0)) :
    Far l (k + 2) (g ++ [b]) := by
  intro r hr
  have := h (b :: r) (by rw [drop_get l k (by omega), drop_get l (k + 1) hk]; exact .esc _ _ _ _ _ h92 hb hr)
  simpa using this

theorem far_oct {l g : List UInt8} {k : Nat} {b : UInt8} (h : Far l k g) (hk : k + 3 < l.length) (h92 : (l.getD k 0).toNat = 92)
    (h1 : 48 ≤ (l.getD (k + 1) 0).toNat ∧ (l.getD (k + 1) 0).toNat ≤ 51) (h2 : 48 ≤ (l.getD (k + 2) 0).toNat ∧ (l.getD (k + 2) 0).toNat ≤ 55) (h3 : 48 ≤ (l.getD (k + 3) 0).toNat ∧ (l.getD (k + 3) 0).toNat ≤ 55)
    (hb : b.toNat = ((l.getD (k + 1) 0).toNat - 48) * 64 + ((l.getD (k + 2) 0).toNat - 48) * 8 + ((l.getD (k + 3) 0).toNat - 48)) :
    Far l (k + 4) (g ++ [b]) := by
  intro r hr
  have := h (b :: r) (by rw [drop_get l k (by omega), drop_get l (k + 1) (by omega), drop_get l (k + 2) (by omega), drop_get l (k + 3) hk]; exact .oct _ _ _ _ _ _ _ h92 h1 h2 h3 hb hr)
  simpa using this

/-- What is left: of a text that stands for o, k bytes are read, as g. -/
def Left (l o : List UInt8) (k : Nat) (g : List UInt8) : Prop := ∃ r, Cu (l.drop k) r ∧ o = g ++ r

theorem left_start {l o : List UInt8} (h : Cu l o) : Left l o 0 [] := ⟨o, h, rfl⟩

theorem left_end {l o g : List UInt8} {k : Nat} (h : Left l o k g) (hk : l.length ≤ k) : o = g := by
  obtain ⟨r, hr, rfl⟩ := h
  rw [List.drop_eq_nil_of_le hk] at hr
  cases hr
  simp

theorem cu_run : ∀ (n : Nat) (l r : List UInt8), Cu l r → n ≤ l.length → (∀ j, j < n → Ok (l.getD j 0).toNat) → ∃ r', Cu (l.drop n) r' ∧ r = l.take n ++ r'
  | 0, l, r, h, _, _ => ⟨r, h, by simp⟩
  | n + 1, [], r, _, hn, _ => by simp at hn
  | n + 1, c :: l, r, h, hn, hok => by
    have h0 : Ok c.toNat := by simpa using hok 0 (by omega)
    unfold Ok at h0
    cases h with
    | plain _ _ o _ h' =>
      obtain ⟨r', h1, h2⟩ := cu_run n l o h' (by simpa using hn) (fun j hj => by simpa using hok (j + 1) (by omega))
      exact ⟨r', by simpa using h1, by simp [h2]⟩
    | esc _ _ _ _ _ h92 => omega
    | oct _ _ _ _ _ _ _ h92 => omega

theorem left_run {l o g : List UInt8} {k n : Nat} (h : Left l o k g) (hn : k + n ≤ l.length) (hok : ∀ j, j < n → Ok (l.getD (k + j) 0).toNat) : Left l o (k + n) (g ++ (l.drop k).take n) := by
  obtain ⟨r, hr, rfl⟩ := h
  obtain ⟨r', h1, h2⟩ := cu_run n (l.drop k) r hr (by simp; omega) (fun j hj => by
    have := hok j hj
    rw [List.getD_eq_getElem?_getD, List.getElem?_drop, ← List.getD_eq_getElem?_getD]
    exact this)
  refine ⟨r', by rw [List.drop_drop] at h1; exact h1, by rw [h2]; simp⟩

/-- The next round's way. -/
theorem left_cases {l o g : List UInt8} {k : Nat} (h : Left l o k g) (hk : k < l.length) :
    Ok (l.getD k 0).toNat ∨
    (k + 1 < l.length ∧ (l.getD k 0).toNat = 92 ∧ ∃ b : UInt8, (((l.getD (k + 1) 0).toNat = 110 ∧ b.toNat = 10) ∨ ((l.getD (k + 1) 0).toNat = 114 ∧ b.toNat = 13) ∨ ((l.getD (k + 1) 0).toNat = 116 ∧ b.toNat = 9) ∨ (((l.getD (k + 1) 0).toNat = 34 ∨ (l.getD (k + 1) 0).toNat = 39 ∨ (l.getD (k + 1) 0).toNat = 92) ∧ b = l.getD (k + 1) 0)) ∧ Left l o (k + 2) (g ++ [b])) ∨
    (k + 3 < l.length ∧ (l.getD k 0).toNat = 92 ∧ (48 ≤ (l.getD (k + 1) 0).toNat ∧ (l.getD (k + 1) 0).toNat ≤ 51) ∧ (48 ≤ (l.getD (k + 2) 0).toNat ∧ (l.getD (k + 2) 0).toNat ≤ 55) ∧ (48 ≤ (l.getD (k + 3) 0).toNat ∧ (l.getD (k + 3) 0).toNat ≤ 55) ∧
      ∃ b : UInt8, b.toNat = ((l.getD (k + 1) 0).toNat - 48) * 64 + ((l.getD (k + 2) 0).toNat - 48) * 8 + ((l.getD (k + 3) 0).toNat - 48) ∧ Left l o (k + 4) (g ++ [b])) := by
  obtain ⟨r, hr, rfl⟩ := h
  have e : ∀ j, (l.drop k).getD j 0 = l.getD (k + j) 0 := fun j => by
    rw [List.getD_eq_getElem?_getD, List.getElem?_drop, ← List.getD_eq_getElem?_getD]
  have hlen : (l.drop k).length = l.length - k := by simp
  have e0 := e 0
  have e1 := e 1
  have e2 := e 2
  have e3 := e 3
  have d2 : (l.drop k).drop 2 = l.drop (k + 2) := by rw [List.drop_drop]
  have d4 : (l.drop k).drop 4 = l.drop (k + 4) := by rw [List.drop_drop]
  obtain ⟨m, hm⟩ : ∃ m, m = l.drop k := ⟨_, rfl⟩
  rw [← hm] at hr hlen e0 e1 e2 e3 d2 d4
  cases hr with
  | nil => simp at hlen; omega
  | plain c l' o' hc h' =>
    left
    simp at e0
    rw [List.getD_eq_getElem?_getD, ← e0]; exact hc
  | esc c d b l' o' h92 hb h' =>
    right; left
    simp at e0 e1 hlen d2
    refine ⟨by omega, by rw [List.getD_eq_getElem?_getD, ← e0]; exact h92, b, ?_, o', by rw [← d2]; exact h', by simp⟩
    rw [List.getD_eq_getElem?_getD, ← e1]; exact hb
  | oct c d x f b l' o' h92 h1 h2 h3 hb h' =>
    right; right
    simp at e0 e1 e2 e3 hlen d4
    simp only [List.getD_eq_getElem?_getD]
    rw [← e0, ← e1, ← e2, ← e3]
    exact ⟨by omega, h92, h1, h2, h3, b, hb, o', by rw [← d4]; exact h', by simp⟩

end Go.Proofs.YtpneioocmpagmaaGreatDoor.une
