/- Scaling of floats: what the table of powers of ten holds, what uscale reckons: plain numbers. -/
import Derived.Lib.Hide
namespace Go.Proofs.YtpneioocmpagmaaGreatDoor.fl

def l10 (x : Int) : Int := x * 78913 / 262144
def l2 (x : Int) : Int := x * 108853 / 32768

/-- 10^p, scaled to 128 bits, rounded up. -/
def pmN (p : Int) : Nat := (if 0 ≤ p then 10 ^ p.toNat else 1) * (if 0 ≤ 127 - l2 p then 2 ^ (127 - l2 p).toNat else 1)
def pmD (p : Int) : Nat := (if 0 ≤ p then 1 else 10 ^ (-p).toNat) * (if 0 ≤ 127 - l2 p then 1 else 2 ^ (l2 p - 127).toNat)
def pm (p : Int) : Nat := (pmN p + pmD p - 1) / pmD p
def tLo (i : Nat) : Nat := (340282366920938463463374607431768211456 - pm ((i : Int) - 348)) % 18446744073709551616
def tHi (i : Nat) : Nat := (pm ((i : Int) - 348) + tLo i) / 18446744073709551616

theorem t_all : ∀ i, i < 696 → 9223372036854775808 ≤ tHi i ∧ tHi i < 18446744073709551616 ∧ tLo i < 18446744073709551616 := by decide +kernel

/-- The scaled number, with two digits of base 2 behind it. -/
def usc (x hi lo t : Nat) : Nat :=
  if x * hi / 18446744073709551616 / 2 ^ t * 2 ^ t = x * hi / 18446744073709551616 then
    ((if x * hi % 18446744073709551616 < x * lo / 18446744073709551616 then x * hi / 18446744073709551616 - 1 else x * hi / 18446744073709551616) / 2 ^ t)
      ||| (if 1 < (x * hi % 18446744073709551616 + 18446744073709551616 - x * lo / 18446744073709551616) % 18446744073709551616 then 1 else 0)
  else x * hi / 18446744073709551616 / 2 ^ t ||| 1

theorem or_lt {a b : Nat} (ha : a < 18446744073709551616) (hb : b ≤ 1) : a ||| b < 18446744073709551616 :=
  Nat.or_lt_two_pow (n := 64) ha (by omega)

theorem mul_lt64 {x y : Nat} (hx : x < 18446744073709551616) (hy : y < 18446744073709551616) : x * y / 18446744073709551616 < 18446744073709551616 :=
  Nat.div_lt_of_lt_mul (Nat.mul_lt_mul_of_lt_of_lt hx hy)

theorem usc_lt {x hi lo t : Nat} (hx : x < 18446744073709551616) (hh : hi < 18446744073709551616) : usc x hi lo t < 18446744073709551616 := by
  have h := mul_lt64 hx hh
  have h1 : ∀ y, y ≤ x * hi / 18446744073709551616 → y / 2 ^ t < 18446744073709551616 := fun y hy => Nat.lt_of_le_of_lt (Nat.div_le_self _ _) (Nat.lt_of_le_of_lt hy h)
  unfold usc
  split
  · refine or_lt (h1 _ ?_) (by split <;> omega)
    split <;> omega
  · exact or_lt (h1 _ (Nat.le_refl _)) (Nat.le_refl _)

/-- It is not below what the upper half gives. -/
theorem usc_ge {x hi lo t : Nat} : (x * hi / 18446744073709551616 - 1) / 2 ^ t ≤ usc x hi lo t := by
  have hor : ∀ a b : Nat, a ≤ a ||| b := fun a b => Nat.left_le_or
  have hd : ∀ y, x * hi / 18446744073709551616 - 1 ≤ y → (x * hi / 18446744073709551616 - 1) / 2 ^ t ≤ y / 2 ^ t := fun y hy => Nat.div_le_div_right hy
  unfold usc
  split
  · refine Nat.le_trans (hd _ ?_) (hor _ _)
    split <;> omega
  · exact Nat.le_trans (hd _ (by omega)) (hor _ _)

theorem top_ge {x hi : Nat} (hx : 2305843009213693952 ≤ x) (hh : 9223372036854775808 ≤ hi) : 1152921504606846976 ≤ x * hi / 18446744073709551616 := by
  have h := Nat.mul_le_mul hx hh
  exact (Nat.le_div_iff_mul_le (by omega)).2 (Nat.le_trans (by decide) h)

end Go.Proofs.YtpneioocmpagmaaGreatDoor.fl
