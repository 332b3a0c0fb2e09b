/- What a text of digits stands for, read as internal/strconv.ParseUint reads it: plain lists of bytes. -/
import Derived.Tactics
import Derived.Lib.Hide
import Derived.Laws.FloatArith
import Derived.Lib.ItoaNum
namespace Go.Proofs.YtpneioocmpagmaaGreatDoor.num

/-- How the reading of a number ends: a number (and whether an underscore was met), no numeral, out of range. -/
inductive NumEnd where
  | ok (n : Nat) (us : Bool)
  | syn
  | rng

def low (c : Nat) : Nat := c ||| 32

def dig (c : Nat) : Option Nat :=
  if 48 ≤ c ∧ c ≤ 57 then some (c - 48) else if 97 ≤ low c ∧ low c ≤ 122 then some (low c - 97 + 10) else none

def puLoop (b0 : Bool) (b mx : Nat) : List UInt8 → Nat → Bool → NumEnd
  | [], n, us => .ok n us
  | c :: l, n, us =>
    if c.toNat = 95 ∧ b0 = true then puLoop b0 b mx l n true
    else match dig c.toNat with
      | none => .syn
      | some d => if b ≤ d then .syn else if mx < n * b + d then .rng else puLoop b0 b mx l (n * b + d) us

/-- What base 0 makes of a text that is not empty. -/
def pre (l : List UInt8) : Nat × List UInt8 :=
  if (l.getD 0 0).toNat = 48 then
    if 3 ≤ l.length ∧ low (l.getD 1 0).toNat = 98 then (2, l.drop 2)
    else if 3 ≤ l.length ∧ low (l.getD 1 0).toNat = 111 then (8, l.drop 2)
    else if 3 ≤ l.length ∧ low (l.getD 1 0).toNat = 120 then (16, l.drop 2)
    else (8, l.drop 1)
  else (10, l)

def pu (b mx : Nat) (l : List UInt8) : NumEnd :=
  if l = [] then .syn
  else if b = 0 then puLoop true (pre l).1 mx (pre l).2 0 false
  else puLoop false b mx l 0 false

/-- A text as internal/strconv.ParseInt reads it: whether a '-' stands ahead, and the rest. -/
def sgn (l : List UInt8) : Bool × List UInt8 :=
  if (l.getD 0 0).toNat = 43 then (false, l.drop 1) else if (l.getD 0 0).toNat = 45 then (true, l.drop 1) else (false, l)

/-- What ParseInt makes of a text: a number (and whether the reading met an underscore), or none. half: the half of the size's range. -/
def pi (b mx half : Nat) (l : List UInt8) : Option (Int × Bool) :=
  if l = [] then none
  else match pu b mx (sgn l).2 with
    | .ok n us => if (sgn l).1 = true then (if n ≤ half then some (-(n : Int), us) else none) else if n < half then some ((n : Int), us) else none
    | _ => none

theorem puLoop_le (b0 : Bool) (b mx : Nat) : ∀ (l : List UInt8) (n : Nat) (us : Bool) (m : Nat) (u : Bool), n ≤ mx → puLoop b0 b mx l n us = .ok m u → m ≤ mx
  | [], n, us, m, u, hn, h => by
    simp only [puLoop, NumEnd.ok.injEq] at h
    omega
  | c :: l, n, us, m, u, hn, h => by
    rw [puLoop] at h
    by_cases h1 : c.toNat = 95 ∧ b0 = true
    · rw [if_pos h1] at h
      exact puLoop_le b0 b mx l n true m u hn h
    · rw [if_neg h1] at h
      cases hd : dig c.toNat with
      | none => rw [hd] at h; cases h
      | some d =>
        rw [hd] at h
        simp only at h
        by_cases h2 : b ≤ d
        · rw [if_pos h2] at h; cases h
        · rw [if_neg h2] at h
          by_cases h3 : mx < n * b + d
          · rw [if_pos h3] at h; cases h
          · rw [if_neg h3] at h
            exact puLoop_le b0 b mx l _ us m u (by omega) h

theorem pu_le {b mx : Nat} {l : List UInt8} {m : Nat} {u : Bool} (h : pu b mx l = .ok m u) : m ≤ mx := by
  unfold pu at h
  by_cases h1 : l = []
  · rw [if_pos h1] at h; cases h
  · rw [if_neg h1] at h
    by_cases h2 : b = 0
    · rw [if_pos h2] at h
      exact puLoop_le _ _ _ _ _ _ _ _ (Nat.zero_le _) h
    · rw [if_neg h2] at h
      exact puLoop_le _ _ _ _ _ _ _ _ (Nat.zero_le _) h

end Go.Proofs.YtpneioocmpagmaaGreatDoor.num

/- Scaling of floats: what the table of powers of ten holds, what uscale reckons: plain numbers. -/
namespace Go.Proofs.YtpneioocmpagmaaGreatDoor.fl

def l10 (x : Int) : Int := x * 78913 / 262144
def l2 (x : Int) : Int := x * 108853 / 32768

/-- 10^p, scaled to 128 bits, rounded up. -/
def pmN (p : Int) : Nat := (if 0 ≤ p then 10 ^ p.toNat else 1) * (if 0 ≤ 127 - l2 p then 2 ^ (127 - l2 p).toNat else 1)
def pmD (p : Int) : Nat := (if 0 ≤ p then 1 else 10 ^ (-p).toNat) * (if 0 ≤ 127 - l2 p then 1 else 2 ^ (l2 p - 127).toNat)
def pm (p : Int) : Nat := (pmN p + pmD p - 1) / pmD p
def tLo (i : Nat) : Nat := (340282366920938463463374607431768211456 - pm ((i : Int) - 348)) % 18446744073709551616
def tHi (i : Nat) : Nat := (pm ((i : Int) - 348) + tLo i) / 18446744073709551616

theorem t_all : ∀ i, i < 696 → 9223372036854775808 ≤ tHi i ∧ tHi i < 18446744073709551616 ∧ tLo i < 18446744073709551616 := by decide +kernel

/-- The scaled number, with two digits of base 2 behind it. -/
def usc (x hi lo t : Nat) : Nat :=
  if x * hi / 18446744073709551616 / 2 ^ t * 2 ^ t = x * hi / 18446744073709551616 then
    ((if x * hi % 18446744073709551616 < x * lo / 18446744073709551616 then x * hi / 18446744073709551616 - 1 else x * hi / 18446744073709551616) / 2 ^ t)
      ||| (if 1 < (x * hi % 18446744073709551616 + 18446744073709551616 - x * lo / 18446744073709551616) % 18446744073709551616 then 1 else 0)
  else x * hi / 18446744073709551616 / 2 ^ t ||| 1

theorem or_lt {a b : Nat} (ha : a < 18446744073709551616) (hb : b ≤ 1) : a ||| b < 18446744073709551616 :=
  Nat.or_lt_two_pow (n := 64) ha (by omega)

theorem mul_lt64 {x y : Nat} (hx : x < 18446744073709551616) (hy : y < 18446744073709551616) : x * y / 18446744073709551616 < 18446744073709551616 :=
  Nat.div_lt_of_lt_mul (Nat.mul_lt_mul_of_lt_of_lt hx hy)

theorem usc_lt {x hi lo t : Nat} (hx : x < 18446744073709551616) (hh : hi < 18446744073709551616) : usc x hi lo t < 18446744073709551616 := by
  have h := mul_lt64 hx hh
  have h1 : ∀ y, y ≤ x * hi / 18446744073709551616 → y / 2 ^ t < 18446744073709551616 := fun y hy => Nat.lt_of_le_of_lt (Nat.div_le_self _ _) (Nat.lt_of_le_of_lt hy h)
  unfold usc
  split
  · refine or_lt (h1 _ ?_) (by split <;> omega)
    split <;> omega
  · exact or_lt (h1 _ (Nat.le_refl _)) (Nat.le_refl _)

/-- It is not below what the upper half gives. -/
theorem usc_ge {x hi lo t : Nat} : (x * hi / 18446744073709551616 - 1) / 2 ^ t ≤ usc x hi lo t := by
  have hor : ∀ a b : Nat, a ≤ a ||| b := fun a b => Nat.left_le_or
  have hd : ∀ y, x * hi / 18446744073709551616 - 1 ≤ y → (x * hi / 18446744073709551616 - 1) / 2 ^ t ≤ y / 2 ^ t := fun y hy => Nat.div_le_div_right hy
  unfold usc
  split
  · refine Nat.le_trans (hd _ ?_) (hor _ _)
    split <;> omega
  · exact Nat.le_trans (hd _ (by omega)) (hor _ _)

theorem top_ge {x hi : Nat} (hx : 2305843009213693952 ≤ x) (hh : 9223372036854775808 ≤ hi) : 1152921504606846976 ≤ x * hi / 18446744073709551616 := by
  have h := Nat.mul_le_mul hx hh
  exact (Nat.le_div_iff_mul_le (by omega)).2 (Nat.le_trans (by decide) h)

end Go.Proofs.YtpneioocmpagmaaGreatDoor.fl

/- Floats: what is no NaN stays none under * and / with a number that is not nought. -/
namespace Go.Proofs.YtpneioocmpagmaaGreatDoor.fl
open Go

def NN (k : FloatKind) (b : Nat) : Prop := (k.decode b).isNaN = false
def Good (k : FloatKind) (b : Nat) : Prop := ∃ s m e, k.decode b = .number s m e ∧ m ≠ 0

theorem good_nn {k : FloatKind} {b : Nat} (h : Good k b) : NN k b := by
  obtain ⟨s, m, e, h, _⟩ := h
  unfold NN
  rw [h]; rfl

theorem read_word (f : Ieee.Format) (neg : Bool) (rung : Nat) (h : rung ≤ f.infRung) : (f.read (f.word neg rung)).isNaN = false := by
  have hlt : rung < f.signWeight := Nat.lt_of_le_of_lt h f.infRung_lt
  have hr : f.word neg rung % f.signWeight = rung := by
    unfold Ieee.Format.word
    split
    · rw [Nat.add_mod_left, Nat.mod_eq_of_lt hlt]
    · exact Nat.mod_eq_of_lt hlt
  unfold Ieee.Format.read
  simp only [hr]
  split
  · rfl
  · split
    · rfl
    · split
      · rfl
      · omega

theorem read_write (f : Ieee.Format) (d : Ieee.Datum) (h : d.isNaN = false) : (f.read (f.write d)).isNaN = false := by
  cases d with
  | number s m e =>
    show (f.read (f.nearest s m e)).isNaN = false
    unfold Ieee.Format.nearest
    split
    · exact read_word f s 0 (Nat.zero_le _)
    · exact read_word f s _ (Nat.min_le_right _ _)
  | infinity s => exact read_word f s _ (Nat.le_refl _)
  | nan s t => cases h

theorem mul_good {k : FloatKind} {x y : Nat} (hx : NN k x) (hy : Good k y) : ∃ r, floatBits .mul k x y = some r ∧ NN k r := by
  obtain ⟨t, n, j, hy, hn⟩ := hy
  unfold NN FloatKind.decode at *
  show ∃ r, k.format.mul x y = some r ∧ _
  unfold Ieee.Format.mul
  rw [hy]
  cases hd : k.format.read x with
  | number s m i => exact ⟨_, rfl, read_write _ _ rfl⟩
  | infinity s =>
    refine ⟨k.format.write (.infinity (s ^^ t)), ?_, read_write _ _ rfl⟩
    show (if n = 0 then none else some (Ieee.Datum.infinity (s ^^ t))).map k.format.write = _
    rw [if_neg hn]; rfl
  | nan s u => rw [hd] at hx; cases hx

theorem div_good {k : FloatKind} {x y : Nat} (hx : NN k x) (hy : Good k y) : ∃ r, floatBits .quo k x y = some r ∧ NN k r := by
  obtain ⟨t, n, j, hy, hn⟩ := hy
  unfold NN FloatKind.decode at *
  show ∃ r, k.format.div x y = some r ∧ _
  unfold Ieee.Format.div
  rw [hy]
  cases hd : k.format.read x with
  | number s m i =>
    simp only [Ieee.Datum.quotient]
    rw [if_neg hn]
    exact ⟨_, rfl, read_write _ _ rfl⟩
  | infinity s => exact ⟨_, rfl, read_write _ _ rfl⟩
  | nan s u => rw [hd] at hx; cases hx

theorem nearest_nn (k : FloatKind) (n : Int) : NN k (k.nearest n) := by
  show (k.format.read (k.format.write (.number (n < 0) n.natAbs 0))).isNaN = false
  exact read_write _ _ rfl

theorem nan_rung (f : Ieee.Format) (x y : Nat) (h : x % f.signWeight = y % f.signWeight) : (f.read x).isNaN = (f.read y).isNaN := by
  unfold Ieee.Format.read
  simp only [h]
  split
  · rfl
  · split
    · rfl
    · split <;> rfl

theorem neg_nn {k : FloatKind} {x : Nat} (h : NN k x) : NN k (Op.negFloat k x) := by
  have : (Op.negFloat k x) % k.format.signWeight = x % k.format.signWeight := by
    show (x ^^^ 2 ^ (k.format.exponentBits + k.format.fractionBits)) % 2 ^ (k.format.exponentBits + k.format.fractionBits) = x % 2 ^ (k.format.exponentBits + k.format.fractionBits)
    rw [Nat.xor_mod_two_pow, Nat.mod_self, Nat.xor_zero]
  unfold NN FloatKind.decode at *
  rw [nan_rung _ _ _ this]
  exact h

end Go.Proofs.YtpneioocmpagmaaGreatDoor.fl

/- What readFloat reads of a decimal: plain numbers. -/
namespace Go.Proofs.YtpneioocmpagmaaGreatDoor.fl

/-- What is known behind some of a mantissa's bytes: its first 19 digits as a number, how many digits there are, how many of them are in the number, where the point is; whether a point, a digit, a digit that is lost was seen. -/
structure RF where
  mant : Nat
  nd : Nat
  ndm : Nat
  dp : Int
  dot : Bool
  dig : Bool
  tr : Bool

def RF.step (s : RF) (c : UInt8) : RF :=
  if c.toNat = 46 then ⟨s.mant, s.nd, s.ndm, s.nd, true, s.dig, s.tr⟩
  else if c.toNat = 48 ∧ s.nd = 0 then ⟨s.mant, s.nd, s.ndm, s.dp - 1, s.dot, true, s.tr⟩
  else if s.ndm < 19 then ⟨s.mant * 10 + (c.toNat - 48), s.nd + 1, s.ndm + 1, s.dp, s.dot, true, s.tr⟩
  else if c.toNat = 48 then ⟨s.mant, s.nd + 1, s.ndm, s.dp, s.dot, true, s.tr⟩
  else ⟨s.mant, s.nd + 1, s.ndm, s.dp, s.dot, true, true⟩

def rf (l : List UInt8) : RF := l.foldl RF.step ⟨0, 0, 0, 0, false, false, false⟩

theorem rf_nil : rf [] = ⟨0, 0, 0, 0, false, false, false⟩ := rfl
theorem rf_snoc (l : List UInt8) (c : UInt8) : rf (l ++ [c]) = (rf l).step c := by unfold rf; rw [List.foldl_append]; rfl

/-- A digit or a point. -/
def Md (c : UInt8) : Prop := c.toNat = 46 ∨ (48 ≤ c.toNat ∧ c.toNat ≤ 57)

structure RF.Ok (n : Nat) (s : RF) : Prop where
  mant : s.mant < 10 ^ s.ndm
  ndm : s.ndm ≤ 19
  le : s.ndm ≤ s.nd
  nd : s.nd ≤ n
  dp0 : -(n : Int) ≤ s.dp
  dp1 : s.dp ≤ n

theorem RF.Ok.big {n : Nat} {s : RF} (h : RF.Ok n s) : s.mant < 10000000000000000000 :=
  Nat.lt_of_lt_of_le h.mant (Nat.le_trans (Nat.pow_le_pow_right (by omega) h.ndm) (by decide))

theorem step_ok {n : Nat} {s : RF} (h : RF.Ok n s) {c : UInt8} (hc : Md c) : RF.Ok (n + 1) (s.step c) := by
  have h1 := h.ndm
  have h2 := h.le
  have h3 := h.nd
  have h4 := h.dp0
  have h5 := h.dp1
  unfold RF.step
  split
  · exact ⟨h.mant, h1, h2, by show s.nd ≤ _; omega, by show _ ≤ (s.nd : Int); omega, by show (s.nd : Int) ≤ _; omega⟩
  · split
    · exact ⟨h.mant, h1, h2, by show s.nd ≤ _; omega, by show _ ≤ s.dp - 1; omega, by show s.dp - 1 ≤ _; omega⟩
    · split
      · refine ⟨?_, by show s.ndm + 1 ≤ _; omega, by show s.ndm + 1 ≤ s.nd + 1; omega, by show s.nd + 1 ≤ _; omega, by show _ ≤ s.dp; omega, by show s.dp ≤ _; omega⟩
        show s.mant * 10 + (c.toNat - 48) < 10 ^ (s.ndm + 1)
        have := h.mant
        rw [Nat.pow_succ]
        unfold Md at hc
        omega
      · split
        · exact ⟨h.mant, h1, by show s.ndm ≤ s.nd + 1; omega, by show s.nd + 1 ≤ _; omega, by show _ ≤ s.dp; omega, by show s.dp ≤ _; omega⟩
        · exact ⟨h.mant, h1, by show s.ndm ≤ s.nd + 1; omega, by show s.nd + 1 ≤ _; omega, by show _ ≤ s.dp; omega, by show s.dp ≤ _; omega⟩

theorem fold_ok : ∀ (l : List UInt8) (n : Nat) (s : RF), RF.Ok n s → (∀ c ∈ l, Md c) → RF.Ok (n + l.length) (l.foldl RF.step s)
  | [], n, s, h, _ => h
  | c :: l, n, s, h, hc => by
    have := fold_ok l (n + 1) (s.step c) (step_ok h (hc c (by simp))) (fun d hd => hc d (by simp [hd]))
    rw [List.length_cons, show n + (l.length + 1) = n + 1 + l.length from by omega]
    exact this

theorem rf_ok (l : List UInt8) (h : ∀ c ∈ l, Md c) : RF.Ok l.length (rf l) := by
  have := fold_ok l 0 ⟨0, 0, 0, 0, false, false, false⟩ ⟨by decide, by decide, by decide, by decide, by decide, by decide⟩ h
  rwa [Nat.zero_add] at this

/-- The power, cut at a greatest one. -/
def ev (l : List UInt8) : Nat := l.foldl (fun e c => if e < 10000 then e * 10 + (c.toNat - 48) else e) 0

theorem ev_snoc (l : List UInt8) (c : UInt8) : ev (l ++ [c]) = if ev l < 10000 then ev l * 10 + (c.toNat - 48) else ev l := by unfold ev; rw [List.foldl_append]; rfl

theorem ev_fold : ∀ (l : List UInt8) (e : Nat), e < 100300 → l.foldl (fun e c => if e < 10000 then e * 10 + (c.toNat - 48) else e) e < 100300
  | [], e, h => h
  | c :: l, e, h => by
    refine ev_fold l _ ?_
    have := c.toNat_lt
    show (if e < 10000 then e * 10 + (c.toNat - 48) else e) < 100300
    split <;> omega

theorem ev_lt (l : List UInt8) : ev l < 100300 := ev_fold l 0 (by decide)

end Go.Proofs.YtpneioocmpagmaaGreatDoor.fl

/- What json.parseNumber tells of a text: plain lists. -/
namespace Go.Proofs.YtpneioocmpagmaaGreatDoor.jn

/-- The byte at a place; behind the end: 0. -/
def at_ (T : List UInt8) (p : Nat) : Nat := (T.getD p 0).toNat
def dg (c : Nat) : Prop := 48 ≤ c ∧ c ≤ 57
instance (c : Nat) : Decidable (dg c) := inferInstanceAs (Decidable (48 ≤ c ∧ c ≤ 57))
/-- It goes on with a word or a number. -/
def ndl (c : Nat) : Prop := c = 45 ∨ c = 43 ∨ c = 46 ∨ c = 95 ∨ (97 ≤ c ∧ c ≤ 122) ∨ (65 ≤ c ∧ c ≤ 90) ∨ (48 ≤ c ∧ c ≤ 57)
instance (c : Nat) : Decidable (ndl c) := inferInstanceAs (Decidable (c = 45 ∨ c = 43 ∨ c = 46 ∨ c = 95 ∨ (97 ≤ c ∧ c ≤ 122) ∨ (65 ≤ c ∧ c ≤ 90) ∨ (48 ≤ c ∧ c ≤ 57)))

theorem at_lt {T : List UInt8} {p : Nat} (h : at_ T p ≠ 0) : p < T.length := by
  rcases Nat.lt_or_ge p T.length with hl | hl
  · exact hl
  · exfalso; apply h; unfold at_
    rw [List.getD_eq_getElem?_getD, List.getElem?_eq_none hl]; rfl

theorem dg_lt {T : List UInt8} {p : Nat} (h : dg (at_ T p)) : p < T.length := at_lt (fun h0 => by rw [h0] at h; unfold dg at h; omega)

def runN : Nat → List UInt8 → Nat → Nat
  | 0, _, k => k
  | f + 1, T, k => if dg (at_ T k) then runN f T (k + 1) else k

/-- Where digits end. -/
def run (T : List UInt8) (k : Nat) : Nat := runN (T.length - k) T k

theorem run_step {T : List UInt8} {k : Nat} (h : dg (at_ T k)) : run T k = run T (k + 1) := by
  have hk := dg_lt h
  unfold run
  obtain ⟨f, hf⟩ : ∃ f, T.length - k = f + 1 := ⟨T.length - k - 1, by omega⟩
  rw [hf, show T.length - (k + 1) = f from by omega]
  show (if dg (at_ T k) then _ else _) = _
  rw [if_pos h]

theorem run_stop {T : List UInt8} {k : Nat} (h : ¬ dg (at_ T k)) : run T k = k := by
  unfold run
  cases hf : T.length - k with
  | zero => rfl
  | succ f =>
    show (if dg (at_ T k) then _ else _) = _
    rw [if_neg h]

def pnD (T : List UInt8) (i : Nat) : Option Nat := if ndl (at_ T i) then none else some i
def pnC (T : List UInt8) (i : Nat) : Option Nat :=
  if (at_ T i = 101 ∨ at_ T i = 69) ∧ i + 1 < T.length then
    (if at_ T (i + 1) = 43 ∨ at_ T (i + 1) = 45 then (if i + 2 < T.length then pnD T (run T (i + 2)) else none) else pnD T (run T (i + 1)))
  else pnD T i
def pnB (T : List UInt8) (i : Nat) : Option Nat := pnC T (if at_ T i = 46 ∧ dg (at_ T (i + 1)) then run T (i + 2) else i)
def pnE (T : List UInt8) (i : Nat) : Option Nat := if at_ T i = 48 then pnB T (i + 1) else if 49 ≤ at_ T i ∧ at_ T i ≤ 57 then pnB T (run T (i + 1)) else none
/-- Where the number that begins at a place ends; none: there is none. -/
def pn (T : List UInt8) (P : Nat) : Option Nat := pnE T (if at_ T P = 45 then P + 1 else P)

end Go.Proofs.YtpneioocmpagmaaGreatDoor.jn

/- The decimal text of a number is read as that number. -/
namespace Go.Proofs.YtpneioocmpagmaaGreatDoor.num

theorem puLoop_snoc (b0 : Bool) (b mx : Nat) : ∀ (l : List UInt8) (n : Nat) (us : Bool) (c : UInt8) (d m : Nat), (b0 = false) → puLoop b0 b mx l n us = .ok m us → dig c.toNat = some d → d < b → m * b + d ≤ mx → puLoop b0 b mx (l ++ [c]) n us = .ok (m * b + d) us := by
  intro l n us c d m hb
  subst hb
  induction l generalizing n with
  | nil =>
    intro h hd hdb hm
    simp only [puLoop] at h
    cases h
    simp only [List.nil_append, puLoop, Bool.false_eq_true, and_false, if_false, hd]
    rw [if_neg (by omega), if_neg (by omega)]
  | cons x l ih =>
    intro h hd hdb hm
    simp only [puLoop, Bool.false_eq_true, and_false, if_false, List.cons_append] at h ⊢
    cases hx : dig x.toNat with
    | none => rw [hx] at h; cases h
    | some e =>
      rw [hx] at h
      simp only at h ⊢
      by_cases h1 : b ≤ e
      · rw [if_pos h1] at h; cases h
      · rw [if_neg h1] at h ⊢
        by_cases h2 : mx < n * b + e
        · rw [if_pos h2] at h; cases h
        · rw [if_neg h2] at h ⊢
          exact ih _ h hd hdb hm

theorem dig_dec {k : Nat} (h : k < 10) : dig (UInt8.ofNat (48 + k)).toNat = some k := by
  rw [UInt8.toNat_ofNat']
  unfold dig
  rw [if_pos (by omega)]
  congr 1; omega

theorem puLoop_dec (mx : Nat) : ∀ (n u : Nat), u < n → u ≤ mx → puLoop false 10 mx (Lib.decDigits u) 0 false = .ok u false := by
  intro n
  induction n with
  | zero => intro u h; omega
  | succ n ih =>
    intro u h hm
    by_cases h10 : u < 10
    · rw [Lib.decDigits_one h10]
      simp only [puLoop, Bool.false_eq_true, and_false, if_false]
      rw [dig_dec h10]
      simp only
      rw [if_neg (by omega), if_neg (by omega)]
      congr 1; omega
    · rw [show Lib.decDigits u = Lib.decDigits (u / 10) ++ [UInt8.ofNat (48 + u % 10)] from by rw [Lib.decDigits, dif_neg h10]]
      have := puLoop_snoc false 10 mx (Lib.decDigits (u / 10)) 0 false (UInt8.ofNat (48 + u % 10)) (u % 10) (u / 10) rfl (ih (u / 10) (by omega) (by omega)) (dig_dec (by omega)) (by omega) (by omega)
      rw [this]
      congr 1; omega

theorem dec_ne (u : Nat) : Lib.decDigits u ≠ [] := by
  intro h
  have := Lib.decDigits_length u
  rw [h] at this
  have := Lib.nDigits_pos u
  simp at *
  omega

/-- The first byte of a decimal text is a digit. -/
theorem dec_head : ∀ (n u : Nat), u < n → 48 ≤ ((Lib.decDigits u).getD 0 0).toNat ∧ ((Lib.decDigits u).getD 0 0).toNat ≤ 57 := by
  intro n
  induction n with
  | zero => intro u h; omega
  | succ n ih =>
    intro u h
    by_cases h10 : u < 10
    · rw [Lib.decDigits_one h10]
      simp only [List.getD_cons_zero]
      rw [UInt8.toNat_ofNat']
      omega
    · rw [show Lib.decDigits u = Lib.decDigits (u / 10) ++ [UInt8.ofNat (48 + u % 10)] from by rw [Lib.decDigits, dif_neg h10]]
      have hne := dec_ne (u / 10)
      have hl : 0 < (Lib.decDigits (u / 10)).length := List.length_pos_iff.2 hne
      rw [List.getD_eq_getElem?_getD, List.getElem?_append_left hl, ← List.getD_eq_getElem?_getD]
      exact ih (u / 10) (by omega)

theorem pi_itoa (n : Int) (h0 : -2147483648 ≤ n) (h1 : n ≤ 2147483647) : pi 10 (2 ^ 32 - 1) (2 ^ (32 - 1)) (Lib.itoa n) = some (n, false) := by
  unfold pi Lib.itoa
  by_cases hn : n < 0
  · rw [if_pos hn, if_neg (by simp)]
    have hs : sgn (45 :: Lib.decDigits n.natAbs) = (true, Lib.decDigits n.natAbs) := by
      unfold sgn
      simp
    rw [hs]
    have hp : pu 10 (2 ^ 32 - 1) (Lib.decDigits n.natAbs) = .ok n.natAbs false := by
      unfold pu
      rw [if_neg (dec_ne _), if_neg (by omega)]
      exact puLoop_dec _ (n.natAbs + 1) _ (by omega) (by omega)
    simp only [hp]
    rw [if_pos trivial, if_pos (by omega)]
    congr 2; omega
  · rw [if_neg hn, if_neg (dec_ne _)]
    have hh := dec_head (n.toNat + 1) n.toNat (by omega)
    have hs : sgn (Lib.decDigits n.toNat) = (false, Lib.decDigits n.toNat) := by
      unfold sgn
      rw [if_neg (by omega), if_neg (by omega)]
    rw [hs]
    have hp : pu 10 (2 ^ 32 - 1) (Lib.decDigits n.toNat) = .ok n.toNat false := by
      unfold pu
      rw [if_neg (dec_ne _), if_neg (by omega)]
      exact puLoop_dec _ (n.toNat + 1) _ (by omega) (by omega)
    simp only [hp]
    rw [if_neg (by simp), if_pos (by omega)]
    congr 2; omega

end Go.Proofs.YtpneioocmpagmaaGreatDoor.num

/- A number's digits at base 16 or 8: what ParseUint and ParseInt read of them. Plain lists of bytes. -/
namespace Go.Proofs.YtpneioocmpagmaaGreatDoor.hx
open Go.Proofs.YtpneioocmpagmaaGreatDoor.num
set_option linter.unusedVariables false
set_option linter.unusedSimpArgs false

/-- The byte of a digit, in great letters or small ones. -/
def hb (up : Bool) (d : Nat) : UInt8 := UInt8.ofNat (if d < 10 then 48 + d else if up then 55 + d else 87 + d)

/-- The digits of u at base b, at most k of them; none for nought. -/
def bd (b : Nat) (up : Bool) : Nat → Nat → List UInt8
  | 0, _ => []
  | k + 1, u => if u = 0 then [] else bd b up k (u / b) ++ [hb up (u % b)]

theorem hb_dig : ∀ (up : Bool) (d : Nat), d < 16 → dig (hb up d).toNat = some d := by decide
theorem hb_us : ∀ (up : Bool) (d : Nat), d < 16 → (hb up d).toNat ≠ 95 := by decide
theorem hb_oct : ∀ (up : Bool) (d : Nat), d < 8 → 48 ≤ (hb up d).toNat ∧ (hb up d).toNat ≤ 55 := by decide

/-- A byte that is a digit at base 16. -/
def Hx (c : Nat) : Prop := (48 ≤ c ∧ c ≤ 57) ∨ (97 ≤ c ∧ c ≤ 102) ∨ (65 ≤ c ∧ c ≤ 70)

instance (c : Nat) : Decidable (Hx c) := by unfold Hx; infer_instance

theorem hb_hex : ∀ (up : Bool) (d : Nat), d < 16 → Hx (hb up d).toNat := by decide

theorem bd_len (b : Nat) (up : Bool) : ∀ k u, (bd b up k u).length ≤ k
  | 0, _ => by simp [bd]
  | k + 1, u => by
    unfold bd
    split
    · simp
    · have := bd_len b up k (u / b)
      simp; omega

theorem bd_mem (b : Nat) (up : Bool) (hb0 : 0 < b) : ∀ k u, ∀ c ∈ bd b up k u, ∃ d, d < b ∧ c = hb up d
  | 0, _ => by simp [bd]
  | k + 1, u => by
    intro c hc
    unfold bd at hc
    split at hc
    · simp at hc
    · rcases List.mem_append.1 hc with h | h
      · exact bd_mem b up hb0 k _ c h
      · simp at h
        exact ⟨_, Nat.mod_lt _ hb0, h⟩

theorem bd_zero (b : Nat) (up : Bool) (k : Nat) : bd b up k 0 = [] := by
  cases k <;> simp [bd]

theorem bd_ne (b : Nat) (up : Bool) (k u : Nat) (h : u ≠ 0) : bd b up (k + 1) u ≠ [] := by
  unfold bd
  rw [if_neg h]
  simp

theorem div_lt {b u k : Nat} (hb0 : 0 < b) (h : u < b ^ (k + 1)) : u / b < b ^ k := by
  rw [Nat.div_lt_iff_lt_mul hb0]
  rw [Nat.pow_succ] at h
  exact h

theorem puLoop_app (b mx : Nat) (c : UInt8) (hc : c.toNat ≠ 95) : ∀ (l : List UInt8) (n : Nat) (us : Bool),
    puLoop true b mx (l ++ [c]) n us = match puLoop true b mx l n us with
      | .ok m u => puLoop true b mx [c] m u
      | .syn => .syn
      | .rng => .rng
  | [], n, us => by simp only [List.nil_append, puLoop]
  | x :: l, n, us => by
    rw [List.cons_append, puLoop.eq_2, puLoop.eq_2]
    by_cases h : x.toNat = 95 ∧ true = true
    · rw [if_pos h, if_pos h]
      exact puLoop_app b mx c hc l n true
    · rw [if_neg h, if_neg h]
      cases dig x.toNat with
      | none => rfl
      | some d =>
        simp only
        by_cases h1 : b ≤ d
        · rw [if_pos h1, if_pos h1]
        · rw [if_neg h1, if_neg h1]
          by_cases h2 : mx < n * b + d
          · rw [if_pos h2, if_pos h2]
          · rw [if_neg h2, if_neg h2]
            exact puLoop_app b mx c hc l (n * b + d) us

theorem pu_bd (b mx : Nat) (up : Bool) (h0 : 0 < b) (h16 : b ≤ 16) : ∀ k u, u < b ^ k → puLoop true b mx (bd b up k u) 0 false = if u ≤ mx then .ok u false else .rng
  | 0, u, h => by
    obtain rfl : u = 0 := by simpa using h
    rw [if_pos (Nat.zero_le _)]; rfl
  | k + 1, u, h => by
    unfold bd
    by_cases hu : u = 0
    · subst hu; rw [if_pos rfl, if_pos (Nat.zero_le _)]; rfl
    · rw [if_neg hu]
      have hd := Nat.mod_lt u h0
      rw [puLoop_app b mx _ (hb_us up _ (by omega)), pu_bd b mx up h0 h16 k (u / b) (div_lt h0 h)]
      have e := Nat.div_add_mod u b
      rw [Nat.mul_comm] at e
      by_cases h1 : u / b ≤ mx
      · rw [if_pos h1]
        simp only [puLoop]
        rw [if_neg (by intro h; exact hb_us up _ (by omega) h.1), hb_dig up _ (by omega)]
        simp only
        rw [if_neg (by omega), e]
        by_cases h2 : u ≤ mx
        · rw [if_neg (by omega), if_pos h2]
        · rw [if_pos (by omega), if_neg h2]
      · rw [if_neg h1]
        have : u / b ≤ u := Nat.div_le_self u b
        rw [if_neg (by omega)]

/-- The text that the law writes of u: at base 8 with a nought ahead, at base 16 with 0x. -/
def htext (oct up : Bool) (u : Nat) : List UInt8 :=
  if oct = true then 48 :: bd 8 up 22 u else 48 :: 120 :: (if u = 0 then [48] else bd 16 up 16 u)

theorem htext_len (oct up : Bool) (u : Nat) : 1 ≤ (htext oct up u).length ∧ (htext oct up u).length ≤ 23 := by
  have h1 := bd_len 8 up 22 u
  have h2 := bd_len 16 up 16 u
  unfold htext
  split
  · simp; omega
  · split <;> simp; omega

theorem htext_zero (oct up : Bool) (u : Nat) : ((htext oct up u).getD 0 0).toNat = 48 := by
  unfold htext
  split <;> rfl

theorem low_oct : ∀ n : Nat, 48 ≤ n → n ≤ 55 → low n ≠ 98 ∧ low n ≠ 111 ∧ low n ≠ 120 := by
  intro n h0 h1
  have : ∀ k, k < 8 → low (48 + k) ≠ 98 ∧ low (48 + k) ≠ 111 ∧ low (48 + k) ≠ 120 := by decide
  have := this (n - 48) (by omega)
  rwa [show 48 + (n - 48) = n from by omega] at this

theorem pu_text (oct up : Bool) (u mx : Nat) (hu : u ≤ 18446744073709551615) : pu 0 mx (htext oct up u) = if u ≤ mx then .ok u false else .rng := by
  have hne : htext oct up u ≠ [] := by intro h; have := (htext_len oct up u).1; rw [h] at this; simp at this
  unfold pu
  rw [if_neg hne, if_pos rfl]
  have hp : pre (htext oct up u) = if oct = true then (8, bd 8 up 22 u) else (16, if u = 0 then [48] else bd 16 up 16 u) := by
    unfold pre
    rw [if_pos (htext_zero oct up u)]
    unfold htext
    cases oct with
    | true =>
      simp only [if_true]
      have hlow : 3 ≤ (48 :: bd 8 up 22 u).length → low ((48 :: bd 8 up 22 u).getD 1 0).toNat ≠ 98 ∧ low ((48 :: bd 8 up 22 u).getD 1 0).toNat ≠ 111 ∧ low ((48 :: bd 8 up 22 u).getD 1 0).toNat ≠ 120 := by
        intro h3
        have e : (48 :: bd 8 up 22 u).getD 1 0 = (bd 8 up 22 u).getD 0 0 := by simp [List.getD_eq_getElem?_getD]
        have hl : 0 < (bd 8 up 22 u).length := by simp at h3; omega
        rw [e, List.getD_eq_getElem?_getD, List.getElem?_eq_getElem hl]
        obtain ⟨d, hd, hc⟩ := bd_mem 8 up (by omega) 22 u _ (List.getElem_mem hl)
        have := hb_oct up d hd
        show low ((bd 8 up 22 u)[0]).toNat ≠ 98 ∧ low ((bd 8 up 22 u)[0]).toNat ≠ 111 ∧ low ((bd 8 up 22 u)[0]).toNat ≠ 120
        rw [hc]
        exact low_oct _ this.1 this.2
      rw [if_neg (fun h => (hlow h.1).1 h.2), if_neg (fun h => (hlow h.1).2.1 h.2), if_neg (fun h => (hlow h.1).2.2 h.2)]
      rfl
    | false =>
      simp only [Bool.false_eq_true, if_false]
      have h3 : 3 ≤ (48 :: 120 :: (if u = 0 then [48] else bd 16 up 16 u) : List UInt8).length := by
        by_cases h : u = 0
        · rw [if_pos h]; simp
        · rw [if_neg h]
          have : 0 < (bd 16 up 16 u).length := List.length_pos_iff.2 (bd_ne 16 up 15 u h)
          simp only [List.length_cons]; omega
      have e1 : (48 :: 120 :: (if u = 0 then [48] else bd 16 up 16 u) : List UInt8).getD 1 0 = 120 := rfl
      rw [e1, if_neg (fun h => absurd h.2 (by decide)), if_neg (fun h => absurd h.2 (by decide)), if_pos ⟨h3, by decide⟩]
      rfl
  rw [hp]
  cases oct with
  | true =>
    simp only [if_true]
    exact pu_bd 8 mx up (by omega) (by omega) 22 u (Nat.lt_of_le_of_lt hu (by decide))
  | false =>
    simp only [Bool.false_eq_true, if_false]
    by_cases h : u = 0
    · subst h
      rw [if_pos rfl, if_pos (Nat.zero_le _)]
      simp only [puLoop]
      rw [if_neg (by decide), show dig (48 : UInt8).toNat = some 0 from by decide]
      simp
    · rw [if_neg h]
      exact pu_bd 16 mx up (by omega) (by omega) 16 u (Nat.lt_of_le_of_lt hu (by decide))

theorem pi_text (oct up : Bool) (u mx half : Nat) (hu : u ≤ 18446744073709551615) (hh : half ≤ mx) : pi 0 mx half (htext oct up u) = if u < half then some ((u : Int), false) else none := by
  have hne : htext oct up u ≠ [] := by intro h; have := (htext_len oct up u).1; rw [h] at this; simp at this
  unfold pi
  rw [if_neg hne]
  have hs : sgn (htext oct up u) = (false, htext oct up u) := by
    unfold sgn
    rw [if_neg (by rw [htext_zero]; decide), if_neg (by rw [htext_zero]; decide)]
  rw [hs]
  simp only [pu_text oct up u mx hu]
  by_cases h : u ≤ mx
  · rw [if_pos h]
    simp
  · rw [if_neg h, if_neg (by omega)]

end Go.Proofs.YtpneioocmpagmaaGreatDoor.hx

