/- What a text of digits stands for, read as internal/strconv.ParseUint reads it: plain lists of bytes. -/
import Derived.Tactics
namespace Go.Proofs.YtpneioocmpagmaaGreatDoor.num

/-- How the reading of a number ends: a number (and whether an underscore was met), no numeral, out of range. -/
inductive NumEnd where
  | ok (n : Nat) (us : Bool)
  | syn
  | rng

def low (c : Nat) : Nat := c ||| 32

def dig (c : Nat) : Option Nat :=
  if 48 ≤ c ∧ c ≤ 57 then some (c - 48) else if 97 ≤ low c ∧ low c ≤ 122 then some (low c - 97 + 10) else none

def puLoop (b0 : Bool) (b mx : Nat) : List UInt8 → Nat → Bool → NumEnd
  | [], n, us => .ok n us
  | c :: l, n, us =>
    if c.toNat = 95 ∧ b0 = true then puLoop b0 b mx l n true
    else match dig c.toNat with
      | none => .syn
      | some d => if b ≤ d then .syn else if mx < n * b + d then .rng else puLoop b0 b mx l (n * b + d) us

/-- What base 0 makes of a text that is not empty. -/
def pre (l : List UInt8) : Nat × List UInt8 :=
  if (l.getD 0 0).toNat = 48 then
    if 3 ≤ l.length ∧ low (l.getD 1 0).toNat = 98 then (2, l.drop 2)
    else if 3 ≤ l.length ∧ low (l.getD 1 0).toNat = 111 then (8, l.drop 2)
    else if 3 ≤ l.length ∧ low (l.getD 1 0).toNat = 120 then (16, l.drop 2)
    else (8, l.drop 1)
  else (10, l)

def pu (b mx : Nat) (l : List UInt8) : NumEnd :=
  if l = [] then .syn
  else if b = 0 then puLoop true (pre l).1 mx (pre l).2 0 false
  else puLoop false b mx l 0 false

/-- A text as internal/strconv.ParseInt reads it: whether a '-' stands ahead, and the rest. -/
def sgn (l : List UInt8) : Bool × List UInt8 :=
  if (l.getD 0 0).toNat = 43 then (false, l.drop 1) else if (l.getD 0 0).toNat = 45 then (true, l.drop 1) else (false, l)

/-- What ParseInt makes of a text: a number (and whether the reading met an underscore), or none. half: the half of the size's range. -/
def pi (b mx half : Nat) (l : List UInt8) : Option (Int × Bool) :=
  if l = [] then none
  else match pu b mx (sgn l).2 with
    | .ok n us => if (sgn l).1 = true then (if n ≤ half then some (-(n : Int), us) else none) else if n < half then some ((n : Int), us) else none
    | _ => none

theorem puLoop_le (b0 : Bool) (b mx : Nat) : ∀ (l : List UInt8) (n : Nat) (us : Bool) (m : Nat) (u : Bool), n ≤ mx → puLoop b0 b mx l n us = .ok m u → m ≤ mx
  | [], n, us, m, u, hn, h => by
    simp only [puLoop, NumEnd.ok.injEq] at h
    omega
  | c :: l, n, us, m, u, hn, h => by
    rw [puLoop] at h
    by_cases h1 : c.toNat = 95 ∧ b0 = true
    · rw [if_pos h1] at h
      exact puLoop_le b0 b mx l n true m u hn h
    · rw [if_neg h1] at h
      cases hd : dig c.toNat with
      | none => rw [hd] at h; cases h
      | some d =>
        rw [hd] at h
        simp only at h
        by_cases h2 : b ≤ d
        · rw [if_pos h2] at h; cases h
        · rw [if_neg h2] at h
          by_cases h3 : mx < n * b + d
          · rw [if_pos h3] at h; cases h
          · rw [if_neg h3] at h
            exact puLoop_le b0 b mx l _ us m u (by omega) h

theorem pu_le {b mx : Nat} {l : List UInt8} {m : Nat} {u : Bool} (h : pu b mx l = .ok m u) : m ≤ mx := by
  unfold pu at h
  by_cases h1 : l = []
  · rw [if_pos h1] at h; cases h
  · rw [if_neg h1] at h
    by_cases h2 : b = 0
    · rw [if_pos h2] at h
      exact puLoop_le _ _ _ _ _ _ _ _ (Nat.zero_le _) h
    · rw [if_neg h2] at h
      exact puLoop_le _ _ _ _ _ _ _ _ (Nat.zero_le _) h

end Go.Proofs.YtpneioocmpagmaaGreatDoor.num
