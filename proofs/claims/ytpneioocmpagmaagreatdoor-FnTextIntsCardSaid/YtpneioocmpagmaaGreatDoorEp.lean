/- The decimal text of a number is read as that number. -/
import Derived.Test.YtpneioocmpagmaaGreatDoorNum
import Derived.Lib.ItoaNum
namespace Go.Proofs.YtpneioocmpagmaaGreatDoor.num

theorem puLoop_snoc (b0 : Bool) (b mx : Nat) : ∀ (l : List UInt8) (n : Nat) (us : Bool) (c : UInt8) (d m : Nat), (b0 = false) → puLoop b0 b mx l n us = .ok m us → dig c.toNat = some d → d < b → m * b + d ≤ mx → puLoop b0 b mx (l ++ [c]) n us = .ok (m * b + d) us := by
  intro l n us c d m hb
  subst hb
  induction l generalizing n with
  | nil =>
    intro h hd hdb hm
    simp only [puLoop] at h
    cases h
    simp only [List.nil_append, puLoop, Bool.false_eq_true, and_false, if_false, hd]
    rw [if_neg (by omega), if_neg (by omega)]
  | cons x l ih =>
    intro h hd hdb hm
    simp only [puLoop, Bool.false_eq_true, and_false, if_false, List.cons_append] at h ⊢
    cases hx : dig x.toNat with
    | none => rw [hx] at h; cases h
    | some e =>
      rw [hx] at h
      simp only at h ⊢
      by_cases h1 : b ≤ e
      · rw [if_pos h1] at h; cases h
      · rw [if_neg h1] at h ⊢
        by_cases h2 : mx < n * b + e
        · rw [if_pos h2] at h; cases h
        · rw [if_neg h2] at h ⊢
          exact ih _ h hd hdb hm

theorem dig_dec {k : Nat} (h : k < 10) : dig (UInt8.ofNat (48 + k)).toNat = some k := by
  rw [UInt8.toNat_ofNat']
  unfold dig
  rw [if_pos (by omega)]
  congr 1; omega

theorem puLoop_dec (mx : Nat) : ∀ (n u : Nat), u < n → u ≤ mx → puLoop false 10 mx (Lib.decDigits u) 0 false = .ok u false := by
  intro n
  induction n with
  | zero => intro u h; omega
  | succ n ih =>
    intro u h hm
    by_cases h10 : u < 10
    · rw [Lib.decDigits_one h10]
      simp only [puLoop, Bool.false_eq_true, and_false, if_false]
      rw [dig_dec h10]
      simp only
      rw [if_neg (by omega), if_neg (by omega)]
      congr 1; omega
    · rw [show Lib.decDigits u = Lib.decDigits (u / 10) ++ [UInt8.ofNat (48 + u % 10)] from by rw [Lib.decDigits, dif_neg h10]]
      have := puLoop_snoc false 10 mx (Lib.decDigits (u / 10)) 0 false (UInt8.ofNat (48 + u % 10)) (u % 10) (u / 10) rfl (ih (u / 10) (by omega) (by omega)) (dig_dec (by omega)) (by omega) (by omega)
      rw [this]
      congr 1; omega

theorem dec_ne (u : Nat) : Lib.decDigits u ≠ [] := by
  intro h
  have := Lib.decDigits_length u
  rw [h] at this
  have := Lib.nDigits_pos u
  simp at *
  omega

/-- The first byte of a decimal text is a digit. -/
theorem dec_head : ∀ (n u : Nat), u < n → 48 ≤ ((Lib.decDigits u).getD 0 0).toNat ∧ ((Lib.decDigits u).getD 0 0).toNat ≤ 57 := by
  intro n
  induction n with
  | zero => intro u h; omega
  | succ n ih =>
    intro u h
    by_cases h10 : u < 10
    · rw [Lib.decDigits_one h10]
      simp only [List.getD_cons_zero]
      rw [UInt8.toNat_ofNat']
      omega
    · rw [show Lib.decDigits u = Lib.decDigits (u / 10) ++ [UInt8.ofNat (48 + u % 10)] from by rw [Lib.decDigits, dif_neg h10]]
      have hne := dec_ne (u / 10)
      have hl : 0 < (Lib.decDigits (u / 10)).length := List.length_pos_iff.2 hne
      rw [List.getD_eq_getElem?_getD, List.getElem?_append_left hl, ← List.getD_eq_getElem?_getD]
      exact ih (u / 10) (by omega)

theorem pi_itoa (n : Int) (h0 : -2147483648 ≤ n) (h1 : n ≤ 2147483647) : pi 10 (2 ^ 32 - 1) (2 ^ (32 - 1)) (Lib.itoa n) = some (n, false) := by
  unfold pi Lib.itoa
  by_cases hn : n < 0
  · rw [if_pos hn, if_neg (by simp)]
    have hs : sgn (45 :: Lib.decDigits n.natAbs) = (true, Lib.decDigits n.natAbs) := by
      unfold sgn
      simp
    rw [hs]
    have hp : pu 10 (2 ^ 32 - 1) (Lib.decDigits n.natAbs) = .ok n.natAbs false := by
      unfold pu
      rw [if_neg (dec_ne _), if_neg (by omega)]
      exact puLoop_dec _ (n.natAbs + 1) _ (by omega) (by omega)
    simp only [hp]
    rw [if_pos trivial, if_pos (by omega)]
    congr 2; omega
  · rw [if_neg hn, if_neg (dec_ne _)]
    have hh := dec_head (n.toNat + 1) n.toNat (by omega)
    have hs : sgn (Lib.decDigits n.toNat) = (false, Lib.decDigits n.toNat) := by
      unfold sgn
      rw [if_neg (by omega), if_neg (by omega)]
    rw [hs]
    have hp : pu 10 (2 ^ 32 - 1) (Lib.decDigits n.toNat) = .ok n.toNat false := by
      unfold pu
      rw [if_neg (dec_ne _), if_neg (by omega)]
      exact puLoop_dec _ (n.toNat + 1) _ (by omega) (by omega)
    simp only [hp]
    rw [if_neg (by simp), if_pos (by omega)]
    congr 2; omega

end Go.Proofs.YtpneioocmpagmaaGreatDoor.num
