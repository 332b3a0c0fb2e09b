/- Texts of digits alone, and texts with a byte that is in no number, as ParseInt and ParseUint read them at base 0: plain lists of bytes. -/
import Derived.Test.YtdcgoaikfbbneaaGreatDoorNum
namespace Go.Proofs.YtdcgoaikfbbneaaGreatDoor.num

def IsDig (c : UInt8) : Prop := 48 ≤ c.toNat ∧ c.toNat ≤ 57

def Word (c : Nat) : Prop := c = 45 ∨ c = 43 ∨ c = 95 ∨ c = 46 ∨ (48 ≤ c ∧ c ≤ 57) ∨ (97 ≤ c ∧ c ≤ 122) ∨ (65 ≤ c ∧ c ≤ 90)

def val : List UInt8 → Nat → Nat
  | [], n => n
  | c :: l, n => val l (n * 10 + (c.toNat - 48))

theorem val_ge : ∀ (l : List UInt8) (n : Nat), n ≤ val l n
  | [], n => Nat.le_refl _
  | c :: l, n => by
    have := val_ge l (n * 10 + (c.toNat - 48))
    rw [val]; omega

theorem dig_digit {c : UInt8} (h : IsDig c) : dig c.toNat = some (c.toNat - 48) := by
  unfold dig; rw [if_pos (show 48 ≤ c.toNat ∧ c.toNat ≤ 57 from h)]

theorem puLoop_digits (b0 : Bool) (mx : Nat) : ∀ (l : List UInt8) (n : Nat) (us : Bool), (∀ c ∈ l, IsDig c) → n ≤ mx → puLoop b0 10 mx l n us = if val l n ≤ mx then .ok (val l n) us else .rng
  | [], n, us, _, hn => by rw [puLoop, val, if_pos hn]
  | c :: l, n, us, h, hn => by
    have hc := h c (by simp)
    have h2 := hc
    unfold IsDig at h2
    rw [puLoop, if_neg (by omega), dig_digit hc, val]
    simp only
    rw [if_neg (by omega)]
    by_cases h3 : mx < n * 10 + (c.toNat - 48)
    · have := val_ge l (n * 10 + (c.toNat - 48))
      rw [if_pos h3, if_neg (by omega)]
    · rw [if_neg h3]
      exact puLoop_digits b0 mx l _ us (fun d hd => h d (by simp [hd])) (by omega)

theorem low_word : ∀ c : Nat, c < 256 → (97 ≤ low c ∧ low c ≤ 122) → (97 ≤ c ∧ c ≤ 122) ∨ (65 ≤ c ∧ c ≤ 90) := by decide +kernel

theorem dig_bad {c : UInt8} (h : ¬ Word c.toNat) : dig c.toNat = none := by
  unfold Word at h
  have := low_word c.toNat c.toNat_lt
  unfold dig
  rw [if_neg (by omega), if_neg (by omega)]

theorem puLoop_bad (b0 : Bool) (b mx : Nat) : ∀ (l : List UInt8) (n : Nat) (us : Bool), (∃ c ∈ l, ¬ Word c.toNat) → ∀ m u, puLoop b0 b mx l n us ≠ .ok m u
  | [], n, us, h, m, u => by obtain ⟨c, hc, _⟩ := h; cases hc
  | c :: l, n, us, h, m, u => by
    intro hp
    rw [puLoop] at hp
    have hrest : Word c.toNat → ∃ d ∈ l, ¬ Word d.toNat := by
      intro hw
      obtain ⟨d, hd, hb⟩ := h
      rcases List.mem_cons.1 hd with rfl | hd
      · exact absurd hw hb
      · exact ⟨d, hd, hb⟩
    by_cases h1 : c.toNat = 95 ∧ b0 = true
    · rw [if_pos h1] at hp
      exact puLoop_bad b0 b mx l n true (hrest (by unfold Word; omega)) m u hp
    · rw [if_neg h1] at hp
      by_cases hw : Word c.toNat
      · cases hd : dig c.toNat with
        | none => rw [hd] at hp; cases hp
        | some d =>
          rw [hd] at hp
          simp only at hp
          by_cases h2 : b ≤ d
          · rw [if_pos h2] at hp; cases hp
          · rw [if_neg h2] at hp
            by_cases h3 : mx < n * b + d
            · rw [if_pos h3] at hp; cases hp
            · rw [if_neg h3] at hp
              exact puLoop_bad b0 b mx l _ us (hrest hw) m u hp
      · rw [dig_bad hw] at hp; cases hp

theorem bad_drop1 {c : UInt8} {l : List UInt8} (hc : Word c.toNat) (h : ∃ d ∈ c :: l, ¬ Word d.toNat) : ∃ d ∈ l, ¬ Word d.toNat := by
  obtain ⟨d, hd, hb⟩ := h
  rcases List.mem_cons.1 hd with rfl | hd
  · exact absurd hc hb
  · exact ⟨d, hd, hb⟩

theorem low_one : ∀ c : Nat, c < 256 → (low c = 98 ∨ low c = 111 ∨ low c = 120) → (97 ≤ c ∧ c ≤ 122) ∨ (65 ≤ c ∧ c ≤ 90) := by decide +kernel

theorem pre_bad {l : List UInt8} (h : ∃ c ∈ l, ¬ Word c.toNat) : ∃ c ∈ (pre l).2, ¬ Word c.toNat := by
  unfold pre
  by_cases h0 : (l.getD 0 0).toNat = 48
  · rw [if_pos h0]
    cases l with
    | nil => obtain ⟨c, hc, _⟩ := h; cases hc
    | cons c l =>
      have hc : Word c.toNat := by unfold Word; simp at h0; omega
      have h1 := bad_drop1 hc h
      have two : ∀ (q : low ((c :: l).getD 1 0).toNat = 98 ∨ low ((c :: l).getD 1 0).toNat = 111 ∨ low ((c :: l).getD 1 0).toNat = 120), ∃ d ∈ (c :: l).drop 2, ¬ Word d.toNat := by
        intro q
        cases l with
        | nil => obtain ⟨c, hc, _⟩ := h1; cases hc
        | cons d l =>
          have q' : low d.toNat = 98 ∨ low d.toNat = 111 ∨ low d.toNat = 120 := by simpa using q
          have := low_one d.toNat d.toNat_lt q'
          exact bad_drop1 (by unfold Word; omega) h1
      by_cases a : 3 ≤ (c :: l).length ∧ low ((c :: l).getD 1 0).toNat = 98
      · rw [if_pos a]; exact two (.inl a.2)
      · rw [if_neg a]
        by_cases b : 3 ≤ (c :: l).length ∧ low ((c :: l).getD 1 0).toNat = 111
        · rw [if_pos b]; exact two (.inr (.inl b.2))
        · rw [if_neg b]
          by_cases d : 3 ≤ (c :: l).length ∧ low ((c :: l).getD 1 0).toNat = 120
          · rw [if_pos d]; exact two (.inr (.inr d.2))
          · rw [if_neg d]; exact h1
  · rw [if_neg h0]; exact h

theorem pu_bad {mx : Nat} {l : List UInt8} (h : l = [] ∨ ∃ c ∈ l, ¬ Word c.toNat) : ∀ m u, pu 0 mx l ≠ .ok m u := by
  intro m u hp
  unfold pu at hp
  by_cases h1 : l = []
  · rw [if_pos h1] at hp; cases hp
  · rw [if_neg h1, if_pos rfl] at hp
    rcases h with h | h
    · exact h1 h
    · exact puLoop_bad _ _ _ _ _ _ (pre_bad h) m u hp

theorem pu_digits {mx : Nat} {l : List UInt8} (hne : l ≠ []) (h : ∀ c ∈ l, IsDig c) (hz : l.length = 1 ∨ (l.getD 0 0).toNat ≠ 48) : pu 0 mx l = if val l 0 ≤ mx then .ok (val l 0) false else .rng := by
  unfold pu
  rw [if_neg hne, if_pos rfl]
  by_cases h0 : (l.getD 0 0).toNat = 48
  · have hl : l.length = 1 := by omega
    obtain ⟨c, rfl⟩ := List.length_eq_one_iff.1 hl
    have hc : c.toNat = 48 := by simpa using h0
    have hp : pre [c] = (8, []) := by
      unfold pre
      simp [hc]
    rw [hp, puLoop]
    simp [val, hc]
  · have hp : pre l = (10, l) := by
      unfold pre; rw [if_neg h0]
    rw [hp]
    exact puLoop_digits true mx l 0 false h (Nat.zero_le _)

/-- What plainDigits says. -/
def PD (l : List UInt8) (d : Int) : Prop := d = 2 ∨ (d = 1 ∧ l ≠ [] ∧ (∀ c ∈ l, IsDig c) ∧ (l.length = 1 ∨ (l.getD 0 0).toNat ≠ 48)) ∨ (d = 0 ∧ (l = [] ∨ ∃ c ∈ l, ¬ Word c.toNat))

/-- What ReadCount says. -/
def RC (mx : Nat) (l : List UInt8) (n told : Int) : Prop := told = 2 ∨ (told = 1 ∧ ∃ m : Nat, n = m ∧ pu 0 mx l = .ok m false) ∨ (told = 0 ∧ ∀ m u, pu 0 mx l ≠ .ok m u)

theorem rc_no {mx : Nat} {l : List UInt8} {d : Int} (h : PD l d) (hd : d ≠ 1) : RC mx l 0 d := by
  rcases h with h | ⟨h, _⟩ | ⟨h, hb⟩
  · exact .inl h
  · exact absurd h hd
  · exact .inr (.inr ⟨h, pu_bad hb⟩)

theorem rc_yes {mx : Nat} {l : List UInt8} (h : PD l 1) : (val l 0 ≤ mx → RC mx l (val l 0 : Nat) 1) ∧ (¬ val l 0 ≤ mx → RC mx l 0 0) := by
  rcases h with h | ⟨_, hne, hd, hz⟩ | ⟨h, _⟩
  · omega
  · have e := pu_digits (mx := mx) hne hd hz
    constructor
    · intro hv
      rw [if_pos hv] at e
      exact .inr (.inl ⟨rfl, _, rfl, e⟩)
    · intro hv
      rw [if_neg hv] at e
      exact .inr (.inr ⟨rfl, fun m u h => by rw [e] at h; cases h⟩)
  · omega

/-- What ReadWhole says. -/
def RW (mx half : Nat) (l : List UInt8) (n told : Int) : Prop := told = 2 ∨ (told = 1 ∧ pi 0 mx half l = some (n, false)) ∨ (told = 0 ∧ pi 0 mx half l = none)

theorem rw_no {mx half : Nat} {l r : List UInt8} {d : Int} (hr : r = if (l.getD 0 0).toNat = 45 then l.drop 1 else l) (h : PD r d) (hd : d ≠ 1) : RW mx half l 0 d := by
  rcases h with h | ⟨h, _⟩ | ⟨h, hb⟩
  · exact .inl h
  · exact absurd h hd
  · refine .inr (.inr ⟨h, ?_⟩)
    unfold pi
    by_cases h1 : l = []
    · rw [if_pos h1]
    · rw [if_neg h1]
      have hb' : (sgn l).2 = [] ∨ ∃ c ∈ (sgn l).2, ¬ Word c.toNat := by
        unfold sgn
        by_cases h43 : (l.getD 0 0).toNat = 43
        · rw [if_pos h43]
          rw [if_neg (by omega)] at hr
          subst hr
          cases r with
          | nil => exact .inl rfl
          | cons c r =>
            rcases hb with hb | hb
            · cases hb
            · exact .inr (bad_drop1 (by unfold Word; simp at h43; omega) hb)
        · rw [if_neg h43]
          by_cases h45 : (l.getD 0 0).toNat = 45
          · rw [if_pos h45]; rw [if_pos h45] at hr; subst hr; exact hb
          · rw [if_neg h45]; rw [if_neg h45] at hr; subst hr; exact hb
      cases hp : pu 0 mx (sgn l).2 with
      | syn => rfl
      | rng => rfl
      | ok n us => exact absurd hp (pu_bad hb' n us)

theorem rw_plus {mx half : Nat} {l : List UInt8} (hh : half ≤ mx + 1) (h45 : (l.getD 0 0).toNat ≠ 45) (h : PD l 1) : (val l 0 < half → RW mx half l (val l 0 : Nat) 1) ∧ (¬ val l 0 < half → RW mx half l 0 0) := by
  rcases h with h | ⟨_, hne, hd, hz⟩ | ⟨h, _⟩
  · omega
  · have e := pu_digits (mx := mx) hne hd hz
    have h43 : (l.getD 0 0).toNat ≠ 43 := by
      cases l with
      | nil => exact absurd rfl hne
      | cons c l => have := hd c (by simp); unfold IsDig at this; simp; omega
    have hs : sgn l = (false, l) := by unfold sgn; rw [if_neg h43, if_neg h45]
    constructor
    · intro hv
      refine .inr (.inl ⟨rfl, ?_⟩)
      unfold pi
      rw [if_neg hne, hs]
      simp only
      rw [e, if_pos (by omega)]
      simp [hv]
    · intro hv
      refine .inr (.inr ⟨rfl, ?_⟩)
      unfold pi
      rw [if_neg hne, hs]
      simp only
      rw [e]
      by_cases h2 : val l 0 ≤ mx
      · rw [if_pos h2]; simp [hv]
      · rw [if_neg h2]
  · omega

theorem rw_minus {mx half : Nat} {l : List UInt8} (hh : half ≤ mx) (h45 : (l.getD 0 0).toNat = 45) (h : PD (l.drop 1) 1) : (val (l.drop 1) 0 ≤ half → RW mx half l (-((val (l.drop 1) 0 : Nat) : Int)) 1) ∧ (¬ val (l.drop 1) 0 ≤ half → RW mx half l 0 0) := by
  rcases h with h | ⟨_, hne, hd, hz⟩ | ⟨h, _⟩
  · omega
  · have e := pu_digits (mx := mx) hne hd hz
    have hl : l ≠ [] := fun h => hne (by rw [h]; rfl)
    have hs : sgn l = (true, l.drop 1) := by unfold sgn; rw [if_neg (by omega), if_pos h45]
    constructor
    · intro hv
      refine .inr (.inl ⟨rfl, ?_⟩)
      unfold pi
      rw [if_neg hl, hs]
      simp only
      rw [e, if_pos (by omega)]
      simp only [if_true]
      rw [if_pos hv]
    · intro hv
      refine .inr (.inr ⟨rfl, ?_⟩)
      unfold pi
      rw [if_neg hl, hs]
      simp only
      rw [e]
      by_cases h2 : val (l.drop 1) 0 ≤ mx
      · rw [if_pos h2]; simp only [if_true]; rw [if_neg hv]
      · rw [if_neg h2]
  · omega

end Go.Proofs.YtdcgoaikfbbneaaGreatDoor.num
