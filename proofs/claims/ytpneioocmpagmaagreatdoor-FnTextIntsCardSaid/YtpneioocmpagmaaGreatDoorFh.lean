/- Floats: what is no NaN stays none under * and / with a number that is not nought. -/
import Derived.Laws.FloatArith
namespace Go.Proofs.YtpneioocmpagmaaGreatDoor.fl
open Go

def NN (k : FloatKind) (b : Nat) : Prop := (k.decode b).isNaN = false
def Good (k : FloatKind) (b : Nat) : Prop := ∃ s m e, k.decode b = .number s m e ∧ m ≠ 0

theorem good_nn {k : FloatKind} {b : Nat} (h : Good k b) : NN k b := by
  obtain ⟨s, m, e, h, _⟩ := h
  unfold NN
  rw [h]; rfl

theorem read_word (f : Ieee.Format) (neg : Bool) (rung : Nat) (h : rung ≤ f.infRung) : (f.read (f.word neg rung)).isNaN = false := by
  have hlt : rung < f.signWeight := Nat.lt_of_le_of_lt h f.infRung_lt
  have hr : f.word neg rung % f.signWeight = rung := by
    unfold Ieee.Format.word
    split
    · rw [Nat.add_mod_left, Nat.mod_eq_of_lt hlt]
    · exact Nat.mod_eq_of_lt hlt
  unfold Ieee.Format.read
  simp only [hr]
  split
  · rfl
  · split
    · rfl
    · split
      · rfl
      · omega

theorem read_write (f : Ieee.Format) (d : Ieee.Datum) (h : d.isNaN = false) : (f.read (f.write d)).isNaN = false := by
  cases d with
  | number s m e =>
    show (f.read (f.nearest s m e)).isNaN = false
    unfold Ieee.Format.nearest
    split
    · exact read_word f s 0 (Nat.zero_le _)
    · exact read_word f s _ (Nat.min_le_right _ _)
  | infinity s => exact read_word f s _ (Nat.le_refl _)
  | nan s t => cases h

theorem mul_good {k : FloatKind} {x y : Nat} (hx : NN k x) (hy : Good k y) : ∃ r, floatBits .mul k x y = some r ∧ NN k r := by
  obtain ⟨t, n, j, hy, hn⟩ := hy
  unfold NN FloatKind.decode at *
  show ∃ r, k.format.mul x y = some r ∧ _
  unfold Ieee.Format.mul
  rw [hy]
  cases hd : k.format.read x with
  | number s m i => exact ⟨_, rfl, read_write _ _ rfl⟩
  | infinity s =>
    refine ⟨k.format.write (.infinity (s ^^ t)), ?_, read_write _ _ rfl⟩
    show (if n = 0 then none else some (Ieee.Datum.infinity (s ^^ t))).map k.format.write = _
    rw [if_neg hn]; rfl
  | nan s u => rw [hd] at hx; cases hx

theorem div_good {k : FloatKind} {x y : Nat} (hx : NN k x) (hy : Good k y) : ∃ r, floatBits .quo k x y = some r ∧ NN k r := by
  obtain ⟨t, n, j, hy, hn⟩ := hy
  unfold NN FloatKind.decode at *
  show ∃ r, k.format.div x y = some r ∧ _
  unfold Ieee.Format.div
  rw [hy]
  cases hd : k.format.read x with
  | number s m i =>
    simp only [Ieee.Datum.quotient]
    rw [if_neg hn]
    exact ⟨_, rfl, read_write _ _ rfl⟩
  | infinity s => exact ⟨_, rfl, read_write _ _ rfl⟩
  | nan s u => rw [hd] at hx; cases hx

theorem nearest_nn (k : FloatKind) (n : Int) : NN k (k.nearest n) := by
  show (k.format.read (k.format.write (.number (n < 0) n.natAbs 0))).isNaN = false
  exact read_write _ _ rfl

theorem nan_rung (f : Ieee.Format) (x y : Nat) (h : x % f.signWeight = y % f.signWeight) : (f.read x).isNaN = (f.read y).isNaN := by
  unfold Ieee.Format.read
  simp only [h]
  split
  · rfl
  · split
    · rfl
    · split <;> rfl

theorem neg_nn {k : FloatKind} {x : Nat} (h : NN k x) : NN k (Op.negFloat k x) := by
  have : (Op.negFloat k x) % k.format.signWeight = x % k.format.signWeight := by
    show (x ^^^ 2 ^ (k.format.exponentBits + k.format.fractionBits)) % 2 ^ (k.format.exponentBits + k.format.fractionBits) = x % 2 ^ (k.format.exponentBits + k.format.fractionBits)
    rw [Nat.xor_mod_two_pow, Nat.mod_self, Nat.xor_zero]
  unfold NN FloatKind.decode at *
  rw [nan_rung _ _ _ this]
  exact h

end Go.Proofs.YtpneioocmpagmaaGreatDoor.fl
