/- What json.parseNumber tells of a text: plain lists. -/
import Derived.Lib.Hide
namespace Go.Proofs.YtpneioocmpagmaaGreatDoor.jn

/-- The byte at a place; behind the end: 0. -/
def at_ (T : List UInt8) (p : Nat) : Nat := (T.getD p 0).toNat
def dg (c : Nat) : Prop := 48 ≤ c ∧ c ≤ 57
instance (c : Nat) : Decidable (dg c) := inferInstanceAs (Decidable (48 ≤ c ∧ c ≤ 57))
/-- It goes on with a word or a number. -/
def ndl (c : Nat) : Prop := c = 45 ∨ c = 43 ∨ c = 46 ∨ c = 95 ∨ (97 ≤ c ∧ c ≤ 122) ∨ (65 ≤ c ∧ c ≤ 90) ∨ (48 ≤ c ∧ c ≤ 57)
instance (c : Nat) : Decidable (ndl c) := inferInstanceAs (Decidable (c = 45 ∨ c = 43 ∨ c = 46 ∨ c = 95 ∨ (97 ≤ c ∧ c ≤ 122) ∨ (65 ≤ c ∧ c ≤ 90) ∨ (48 ≤ c ∧ c ≤ 57)))

theorem at_lt {T : List UInt8} {p : Nat} (h : at_ T p ≠ 0) : p < T.length := by
  rcases Nat.lt_or_ge p T.length with hl | hl
  · exact hl
  · exfalso; apply h; unfold at_
    rw [List.getD_eq_getElem?_getD, List.getElem?_eq_none hl]; rfl

theorem dg_lt {T : List UInt8} {p : Nat} (h : dg (at_ T p)) : p < T.length := at_lt (fun h0 => by rw [h0] at h; unfold dg at h; omega)

def runN : Nat → List UInt8 → Nat → Nat
  | 0, _, k => k
  | f + 1, T, k => if dg (at_ T k) then runN f T (k + 1) else k

/-- Where digits end. -/
def run (T : List UInt8) (k : Nat) : Nat := runN (T.length - k) T k

theorem run_step {T : List UInt8} {k : Nat} (h : dg (at_ T k)) : run T k = run T (k + 1) := by
  have hk := dg_lt h
  unfold run
  obtain ⟨f, hf⟩ : ∃ f, T.length - k = f + 1 := ⟨T.length - k - 1, by omega⟩
  rw [hf, show T.length - (k + 1) = f from by omega]
  show (if dg (at_ T k) then _ else _) = _
  rw [if_pos h]

theorem run_stop {T : List UInt8} {k : Nat} (h : ¬ dg (at_ T k)) : run T k = k := by
  unfold run
  cases hf : T.length - k with
  | zero => rfl
  | succ f =>
    show (if dg (at_ T k) then _ else _) = _
    rw [if_neg h]

def pnD (T : List UInt8) (i : Nat) : Option Nat := if ndl (at_ T i) then none else some i
def pnC (T : List UInt8) (i : Nat) : Option Nat :=
  if (at_ T i = 101 ∨ at_ T i = 69) ∧ i + 1 < T.length then
    (if at_ T (i + 1) = 43 ∨ at_ T (i + 1) = 45 then (if i + 2 < T.length then pnD T (run T (i + 2)) else none) else pnD T (run T (i + 1)))
  else pnD T i
def pnB (T : List UInt8) (i : Nat) : Option Nat := pnC T (if at_ T i = 46 ∧ dg (at_ T (i + 1)) then run T (i + 2) else i)
def pnE (T : List UInt8) (i : Nat) : Option Nat := if at_ T i = 48 then pnB T (i + 1) else if 49 ≤ at_ T i ∧ at_ T i ≤ 57 then pnB T (run T (i + 1)) else none
/-- Where the number that begins at a place ends; none: there is none. -/
def pn (T : List UInt8) (P : Nat) : Option Nat := pnE T (if at_ T P = 45 then P + 1 else P)

end Go.Proofs.YtpneioocmpagmaaGreatDoor.jn
